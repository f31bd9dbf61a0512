/- QeF: parts of the proof, one behind another. -/
import Derived.Test.YtocbbekciphjgaaDoorMz32
/- QeF -/
/- The first round (yaml_parser_scan_flow_scalar): the walks. Printed by genQdJ.py. -/
namespace Go.Proofs.YtocbbekciphjgaaDoor.Qd
open Go.RowKit Go.Proofs.YtocbbekciphjgaaDoor.Rdp Go.Proofs.YtocbbekciphjgaaDoor.Pa Go.Proofs.YtocbbekciphjgaaDoor.Sc
set_option linter.unusedVariables false
set_option linter.unusedSimpArgs false
/-- A frame before the first round: it has not been told yet whether a break has been seen. -/
structure Fu (sg : Bool) (p t mk : Nat) (sv lbv tbv wsv : Value) (a : Act) : Prop where
  size : a.tmps.size = 717
  defers : a.defers = []
  s0 : gt a 0 = .pointer (some ⟨p, 0, none⟩)
  s1 : gt a 1 = .pointer (some ⟨t, 0, none⟩)
  s2 : gt a 2 = .bool sg
  s7 : gt a 7 = .pointer (some ⟨mk, 0, none⟩)
  s8 : gt a 8 = sv
  s9 : gt a 9 = lbv
  s10 : gt a 10 = tbv
  s11 : gt a 11 = wsv
  s12 : gt a 12 = undef
set_option maxHeartbeats 32000000 in
set_option maxRecDepth 100000 in
theorem uU0 {k : Kn} {p t mk lo : Nat} {s0 s1 s2 : Int} {L0 : List Value} {w1 : World} (hC : Cx k p mk lo s0 s1 s2 L0 w1) {sg : Bool} {c u col : Nat} {rest s lb tb ws : List Int} {sv lbv tbv wsv : Value} {a : Act} {w : World} {K : Act → World → Prop} {Q : Exit → Act → World → Prop} (hF : Fu sg p t mk sv lbv tbv wsv a) (hS : St k p lo L0 w1 c u col rest s lb tb ws sv lbv tbv wsv w)
    (hK : ∀ a' w' u', Fu sg p t mk sv lbv tbv wsv a' → St k p lo L0 w1 c u' col rest s lb tb ws sv lbv tbv wsv w' → Rdy k.T c 4 u' → 1 ≤ u' → K a' w') :
    cU.wp Tryd.prog (Exit.then K Q) a w := by
  have hub0 : Calls Tryd.prog 101 #[.pointer (some ⟨p, 0, none⟩), .int .i64 4] w fun e w' => e = .returned (.bool true) ∧ Filled k p L0 c 4 col rest w w' := hS.here.ub hC.round 4 (by omega) (by omega) (by have := hS.kp.size; have := hC.low; have := hC.two; omega)
  have hub := Lib.hid hub0
  clear hub0
  have HS := Lib.hid hS
  have HKK := Lib.hid hK
  have HFAR := Lib.hid hC.far
  obtain ⟨bp, bl, mi, ml, z, L, h1, h24, h25, h26, h19, m1, m2, m3, ho⟩ := hS.here.ex
  have hsm := h1.small
  obtain ⟨c16, f16⟩ := at_ h1.pb 16 h1.at16
  obtain ⟨c17, f17⟩ := at_ h1.pb 17 h1.at17
  obtain ⟨c18, f18⟩ := at_ h1.pb 18 h1.at18
  obtain ⟨c26, f26⟩ := at_ h1.pb 26 h26
  have j2 : (bl : Int) ≤ 541 := by omega
  have j0 : (0 : Int) ≤ (bp : Int) := by omega
  by_cases hlt : u < 4
  · have e1 : decide ((u : Int) < 4) = true := by simp; omega
    have e2 : (u : Int) < 4 := by omega
    rw [lit717 a hF.size hF.defers, hF.s0, hF.s1, hF.s2, hF.s7, hF.s8, hF.s9, hF.s10, hF.s11, hF.s12]
    clear h1 h24 h25 h26 h19 ho hC hF hS hK
    conv => arg 2; whnf
    try simp only [List.append]
    go_wp2_with fail
    refine hub.out.mono ?_
    rintro e w' ⟨rfl, ⟨u', hr, hu', hat⟩, hkp, hsz⟩
    have hst := HS.out.turn HFAR.out hkp hat (Nat.le_refl _)
    have HST := Lib.hid hst
    have HR := Lib.hid hr
    clear hst hr hat hkp hsz hub HS c16 f16 c17 f17 c18 f18 c26 f26
    go_wp2_with fail
    exact HKK.out _ _ u' ⟨rfl, rfl, rfl, rfl, rfl, rfl, rfl, rfl, rfl, rfl, rfl⟩ (HST.out.drewN 0) HR.out hu'
  · have e1 : decide ((u : Int) < 4) = false := by simp; omega
    have e2 : ¬ ((u : Int) < 4) := by omega
    rw [lit717 a hF.size hF.defers, hF.s0, hF.s1, hF.s2, hF.s7, hF.s8, hF.s9, hF.s10, hF.s11, hF.s12]
    clear h1 h24 h25 h26 h19 ho hC hF hS hK hub
    conv => arg 2; whnf
    try simp only [List.append]
    go_wp2_with fail
    exact HKK.out _ _ u ⟨rfl, rfl, rfl, rfl, rfl, rfl, rfl, rfl, rfl, rfl, rfl⟩ HS.out (.inl (by omega)) (by omega)
set_option maxHeartbeats 32000000 in
set_option maxRecDepth 100000 in
theorem sZ0 {k : Kn} {p t mk lo : Nat} {s0 s1 s2 : Int} {L0 : List Value} {w1 : World} (hC : Cx k p mk lo s0 s1 s2 L0 w1) {sg : Bool} {c u col : Nat} {rest s lb tb ws : List Int} {sv lbv tbv wsv : Value} {a : Act} {w : World} {K : Act → World → Prop} {Q : Exit → Act → World → Prop} (hF : Fu sg p t mk sv lbv tbv wsv a) (hS : St k p lo L0 w1 c u col rest s lb tb ws sv lbv tbv wsv w) (hu1 : 1 ≤ u)
    (hK : rest ≠ [] → ∀ a' w', Fu sg p t mk sv lbv tbv wsv a' → St k p lo L0 w1 c u col rest s lb tb ws sv lbv tbv wsv w' → K a' w')
    (hX : rest = [] → ∀ a' w', a'.defers = [] → gt a' 6 = .bool false → Er k p w1 w' → Q .ret a' w') :
    cZ.wp Tryd.prog (Exit.then K Q) a w := by
  obtain ⟨bp, bl, mi, ml, z, L, h1, h24, h25, h26, h19, m1, m2, m3, ho⟩ := hS.here.ex
  have hsm := h1.small
  obtain ⟨c16, f16⟩ := at_ h1.pb 16 h1.at16
  obtain ⟨c17, f17⟩ := at_ h1.pb 17 h1.at17
  obtain ⟨c18, f18⟩ := at_ h1.pb 18 h1.at18
  obtain ⟨c26, f26⟩ := at_ h1.pb 26 h26
  have j2 : (bl : Int) ≤ 541 := by omega
  have j0 : (0 : Int) ≤ (bp : Int) := by omega
  obtain ⟨y0, z0, hok0, hlay0⟩ := peek h1 [] rest (by simpa using hS.here.fro) (by simpa using hS.here.ch) (by simp) (by simp; omega)
  obtain ⟨x0, HX0⟩ : ∃ x0, Hid (fb rest = x0) := ⟨_, rfl⟩
  rw [HX0.out] at hok0 hlay0
  have hx0 := hlay0.hx
  have hj0 : (bp : Int) + 0 < (bl : Int) := by have := hlay0.hi; simp at this; omega
  simp only [List.length_nil, List.length_cons, Nat.zero_add, Nat.add_zero] at hlay0 hx0
  have hj0' : (bp : Int) < (bl : Int) := by omega
  have hcall : ∀ N, Calls Tryd.prog 114 #[.slice (some ⟨k.q, 0, none⟩) bl 1536, .int .i64 bp] (w.drewN N) fun e w' => e = .returned (.bool (x0 == 0)) ∧ w' = w.drewN N := fun N => z_any k.q bp bl 1536 x0 (by have := hlay0.hi; omega) (by omega) hok0.x0 (by have := hok0.x1; omega) (w.drewN N) hx0
  have hmk := hC.mark.kp hS.kp hC.own
  obtain ⟨q0, _⟩ := at_ hmk 0 (v := .int .i64 s0) rfl
  obtain ⟨q1, _⟩ := at_ hmk 1 (v := .int .i64 s1) rfl
  obtain ⟨q2, _⟩ := at_ hmk 2 (v := .int .i64 s2) rfl
  have HC := Lib.hid hC
  have HCALL := Lib.hid hcall
  have HS := Lib.hid hS
  have HKK := Lib.hid hK
  have HXX := Lib.hid hX
  rw [lit717 a hF.size hF.defers, hF.s0, hF.s1, hF.s2, hF.s7, hF.s8, hF.s9, hF.s10, hF.s11, hF.s12]
  clear h1 h24 h25 h26 h19 ho hC hF hS hK hX hcall hok0 hlay0 hx0 hmk
  conv => arg 2; whnf
  try simp only [List.append]
  by_cases hb : x0 = 0
  · have hn : rest = [] := by
      rcases fb_pos HS.out.here.ch with h | h
      · exact h
      · have := HX0.out
        omega
    have HN := Lib.hid hn
    rw [show (x0 == 0) = true by simpa using hb] at HCALL
    clear hb hn
    go_wp2_with fail
    go_quiet ((go_at_call 114; exact Calls.quiet_of_same (HCALL.out _)))
    go_wp2_with fail
    refine (At.fault (HS.out.here.drewN _) HC.out.cells (HS.out.kp.drewN _) _ _ s0 s1 s2).mono ?_
    rintro e w' ⟨rfl, her⟩
    have HER := Lib.hid her
    clear her
    go_wp2_with fail
    exact HXX.out HN.out _ _ rfl rfl HER.out
  · have hn : rest ≠ [] := by
      intro h
      have := HX0.out
      rw [h] at this
      exact hb this.symm
    have HN := Lib.hid hn
    rw [show (x0 == 0) = false by simpa using hb] at HCALL
    clear hb hn
    go_wp2_with fail
    go_quiet ((go_at_call 114; exact Calls.quiet_of_same (HCALL.out _)))
    go_wp2_with fail
    exact HKK.out HN.out _ _ ⟨rfl, rfl, rfl, rfl, rfl, rfl, rfl, rfl, rfl, rfl, rfl⟩ (HS.out.drewN _)
set_option maxHeartbeats 32000000 in
set_option maxRecDepth 100000 in
theorem sS0 {k : Kn} {p t mk lo : Nat} {s0 s1 s2 : Int} {L0 : List Value} {w1 : World} (hC : Cx k p mk lo s0 s1 s2 L0 w1) {sg : Bool} {sv lbv tbv wsv : Value} {a : Act} {w : World} {K : Act → World → Prop} {Q : Exit → Act → World → Prop} (hF : Fu sg p t mk sv lbv tbv wsv a)
    (hK : ∀ a', Fm sg p t mk sv lbv tbv wsv false a' → K a' w) :
    cS.wp Tryd.prog (Exit.then K Q) a w := by
  have HKK := Lib.hid hK
  rw [lit717 a hF.size hF.defers, hF.s0, hF.s1, hF.s2, hF.s7, hF.s8, hF.s9, hF.s10, hF.s11, hF.s12]
  clear hC hF hK
  conv => arg 2; whnf
  go_wp2_with fail
  exact HKK.out _ ⟨rfl, rfl, rfl, rfl, rfl, rfl, rfl, rfl, rfl, rfl, rfl⟩
set_option maxHeartbeats 32000000 in
set_option maxRecDepth 100000 in
theorem m_col0 {k : Kn} {p t mk lo : Nat} {s0 s1 s2 : Int} {L0 : List Value} {w1 : World} (hC : Cx k p mk lo s0 s1 s2 L0 w1) {sg : Bool} {c u col : Nat} {rest s lb tb ws : List Int} {sv lbv tbv wsv : Value} {a : Act} {w : World} {K : Act → World → Prop} {Q : Exit → Act → World → Prop} (hF : Fu sg p t mk sv lbv tbv wsv a) (hS : St k p lo L0 w1 c u col rest s lb tb ws sv lbv tbv wsv w) (hcol : col ≠ 0)
    (hK : ∀ a' w', Fu sg p t mk sv lbv tbv wsv a' → St k p lo L0 w1 c u col rest s lb tb ws sv lbv tbv wsv w' → K a' w') :
    cM.wp Tryd.prog (Exit.then K Q) a w := by
  obtain ⟨bp, bl, mi, ml, z, L, h1, h24, h25, h26, h19, m1, m2, m3, ho⟩ := hS.here.ex
  have hsm := h1.small
  obtain ⟨c16, f16⟩ := at_ h1.pb 16 h1.at16
  obtain ⟨c17, f17⟩ := at_ h1.pb 17 h1.at17
  obtain ⟨c18, f18⟩ := at_ h1.pb 18 h1.at18
  obtain ⟨c26, f26⟩ := at_ h1.pb 26 h26
  have j2 : (bl : Int) ≤ 541 := by omega
  have j0 : (0 : Int) ≤ (bp : Int) := by omega
  have hcz : ((col : Int) == 0) = false := by simp; omega
  clear hcol
  have HS := Lib.hid hS
  have HKK := Lib.hid hK
  rw [lit717 a hF.size hF.defers, hF.s0, hF.s1, hF.s2, hF.s7, hF.s8, hF.s9, hF.s10, hF.s11, hF.s12]
  clear h1 h24 h25 h26 h19 ho hC hF hS hK
  conv => arg 2; whnf
  try simp only [List.append]
  go_wp2_with fail
  refine wp_region_quiet_lit (by kernel_rfl) (Sp.lexB_chain _ 34 (by kernel_rfl)) ?_
  repeat (go_big_quiet_step (fail))
  refine wpQuiet_nil ?_
  rintro _ ⟨nq, rfl⟩
  go_wp2_with fail
  exact HKK.out _ _ ⟨rfl, rfl, rfl, rfl, rfl, rfl, rfl, rfl, rfl, rfl, rfl⟩ (HS.out.drewN _)
set_option maxHeartbeats 32000000 in
set_option maxRecDepth 100000 in
theorem m_no0 {k : Kn} {p t mk lo : Nat} {s0 s1 s2 : Int} {L0 : List Value} {w1 : World} (hC : Cx k p mk lo s0 s1 s2 L0 w1) {sg : Bool} {c u col : Nat} {rest s lb tb ws : List Int} {sv lbv tbv wsv : Value} {a : Act} {w : World} {K : Act → World → Prop} {Q : Exit → Act → World → Prop} (hF : Fu sg p t mk sv lbv tbv wsv a) (hS : St k p lo L0 w1 c u col rest s lb tb ws sv lbv tbv wsv w) (hu1 : 1 ≤ u) (hcol : col = 0) (hn1 : fb rest ≠ 45) (hn2 : fb rest ≠ 46)
    (hK : ∀ a' w', Fu sg p t mk sv lbv tbv wsv a' → St k p lo L0 w1 c u col rest s lb tb ws sv lbv tbv wsv w' → K a' w') :
    cM.wp Tryd.prog (Exit.then K Q) a w := by
  obtain ⟨bp, bl, mi, ml, z, L, h1, h24, h25, h26, h19, m1, m2, m3, ho⟩ := hS.here.ex
  have hsm := h1.small
  obtain ⟨c16, f16⟩ := at_ h1.pb 16 h1.at16
  obtain ⟨c17, f17⟩ := at_ h1.pb 17 h1.at17
  obtain ⟨c18, f18⟩ := at_ h1.pb 18 h1.at18
  obtain ⟨c26, f26⟩ := at_ h1.pb 26 h26
  have j2 : (bl : Int) ≤ 541 := by omega
  have j0 : (0 : Int) ≤ (bp : Int) := by omega
  subst hcol
  obtain ⟨y0, z0, hok0, hlay0⟩ := peek h1 [] rest (by simpa using hS.here.fro) (by simpa using hS.here.ch) (by simp) (by simp; omega)
  obtain ⟨x0, HX0⟩ : ∃ x0, Hid (fb rest = x0) := ⟨_, rfl⟩
  rw [HX0.out] at hok0 hlay0
  have hx0 := hlay0.hx
  have hj0 : (bp : Int) + 0 < (bl : Int) := by have := hlay0.hi; simp at this; omega
  simp only [List.length_nil, List.length_cons, Nat.zero_add, Nat.add_zero] at hlay0 hx0
  have hj0' : (bp : Int) < (bl : Int) := by omega
  rw [HX0.out] at hn1 hn2
  have hq0 : (x0 == 45) = false := by simpa using hn1
  have hq1 : (x0 == 46) = false := by simpa using hn2
  clear hok0 hlay0 hn1 hn2
  have HS := Lib.hid hS
  have HKK := Lib.hid hK
  rw [lit717 a hF.size hF.defers, hF.s0, hF.s1, hF.s2, hF.s7, hF.s8, hF.s9, hF.s10, hF.s11, hF.s12]
  clear h1 h24 h25 h26 h19 ho hC hF hS hK
  conv => arg 2; whnf
  try simp only [List.append]
  go_wp2_with fail
  refine wp_region_quiet_lit (by kernel_rfl) (Sp.lexB_chain _ 34 (by kernel_rfl)) ?_
  repeat (go_big_quiet_step (fail))
  refine wpQuiet_nil ?_
  rintro _ ⟨nq, rfl⟩
  go_wp2_with fail
  exact HKK.out _ _ ⟨rfl, rfl, rfl, rfl, rfl, rfl, rfl, rfl, rfl, rfl, rfl⟩ (HS.out.drewN _)
set_option maxHeartbeats 32000000 in
set_option maxRecDepth 100000 in
theorem m_a450 {k : Kn} {p t mk lo : Nat} {s0 s1 s2 : Int} {L0 : List Value} {w1 : World} (hC : Cx k p mk lo s0 s1 s2 L0 w1) {sg : Bool} {c u col : Nat} {r s lb tb ws : List Int} {sv lbv tbv wsv : Value} {a : Act} {w : World} {K : Act → World → Prop} {Q : Exit → Act → World → Prop} (hF : Fu sg p t mk sv lbv tbv wsv a) (hS : St k p lo L0 w1 c u col (45 :: r) s lb tb ws sv lbv tbv wsv w) (hu : 2 ≤ u) (hcol : col = 0) (hn : fb r ≠ 45)
    (hK : ∀ a' w', Fu sg p t mk sv lbv tbv wsv a' → St k p lo L0 w1 c u col (45 :: r) s lb tb ws sv lbv tbv wsv w' → K a' w') :
    cM.wp Tryd.prog (Exit.then K Q) a w := by
  obtain ⟨bp, bl, mi, ml, z, L, h1, h24, h25, h26, h19, m1, m2, m3, ho⟩ := hS.here.ex
  have hsm := h1.small
  obtain ⟨c16, f16⟩ := at_ h1.pb 16 h1.at16
  obtain ⟨c17, f17⟩ := at_ h1.pb 17 h1.at17
  obtain ⟨c18, f18⟩ := at_ h1.pb 18 h1.at18
  obtain ⟨c26, f26⟩ := at_ h1.pb 26 h26
  have j2 : (bl : Int) ≤ 541 := by omega
  have j0 : (0 : Int) ≤ (bp : Int) := by omega
  subst hcol
  obtain ⟨y0, z0, hok0, hlay0⟩ := peek h1 [] (45 :: r) (by simpa using hS.here.fro) (by simpa using hS.here.ch) (by simp) (by simp; omega)
  obtain ⟨x0, HX0⟩ : ∃ x0, Hid (fb (45 :: r) = x0) := ⟨_, rfl⟩
  rw [HX0.out] at hok0 hlay0
  have hx0 := hlay0.hx
  have hj0 : (bp : Int) + 0 < (bl : Int) := by have := hlay0.hi; simp at this; omega
  simp only [List.length_nil, List.length_cons, Nat.zero_add, Nat.add_zero] at hlay0 hx0
  have hj0' : (bp : Int) < (bl : Int) := by omega
  obtain rfl : x0 = 45 := HX0.out.symm.trans (fb_small (by omega))
  obtain ⟨y1, z1, hok1, hlay1⟩ := peek h1 [45] r (by simpa using hS.here.fro) (by simpa using hS.here.ch) (by simp) (by simp; omega)
  obtain ⟨x1, HX1⟩ : ∃ x1, Hid (fb r = x1) := ⟨_, rfl⟩
  rw [HX1.out] at hok1 hlay1
  have hx1 := hlay1.hx
  have hj1 : (bp : Int) + 1 < (bl : Int) := by have := hlay1.hi; simp at this; omega
  simp only [List.length_nil, List.length_cons, Nat.zero_add, Nat.add_zero] at hlay1 hx1
  rw [HX1.out] at hn
  have hq1 : (x1 == 45) = false := by simpa using hn
  clear hok0 hlay0 hok1 hlay1 hn
  have HS := Lib.hid hS
  have HKK := Lib.hid hK
  rw [lit717 a hF.size hF.defers, hF.s0, hF.s1, hF.s2, hF.s7, hF.s8, hF.s9, hF.s10, hF.s11, hF.s12]
  clear h1 h24 h25 h26 h19 ho hC hF hS hK
  conv => arg 2; whnf
  try simp only [List.append]
  go_wp2_with fail
  refine wp_region_quiet_lit (by kernel_rfl) (Sp.lexB_chain _ 34 (by kernel_rfl)) ?_
  repeat (go_big_quiet_step (fail))
  refine wpQuiet_nil ?_
  rintro _ ⟨nq, rfl⟩
  go_wp2_with fail
  exact HKK.out _ _ ⟨rfl, rfl, rfl, rfl, rfl, rfl, rfl, rfl, rfl, rfl, rfl⟩ (HS.out.drewN _)
set_option maxHeartbeats 32000000 in
set_option maxRecDepth 100000 in
theorem m_b450 {k : Kn} {p t mk lo : Nat} {s0 s1 s2 : Int} {L0 : List Value} {w1 : World} (hC : Cx k p mk lo s0 s1 s2 L0 w1) {sg : Bool} {c u col : Nat} {r s lb tb ws : List Int} {sv lbv tbv wsv : Value} {a : Act} {w : World} {K : Act → World → Prop} {Q : Exit → Act → World → Prop} (hF : Fu sg p t mk sv lbv tbv wsv a) (hS : St k p lo L0 w1 c u col (45 :: 45 :: r) s lb tb ws sv lbv tbv wsv w) (hu : 3 ≤ u) (hcol : col = 0) (hn : fb r ≠ 45)
    (hK : ∀ a' w', Fu sg p t mk sv lbv tbv wsv a' → St k p lo L0 w1 c u col (45 :: 45 :: r) s lb tb ws sv lbv tbv wsv w' → K a' w') :
    cM.wp Tryd.prog (Exit.then K Q) a w := by
  obtain ⟨bp, bl, mi, ml, z, L, h1, h24, h25, h26, h19, m1, m2, m3, ho⟩ := hS.here.ex
  have hsm := h1.small
  obtain ⟨c16, f16⟩ := at_ h1.pb 16 h1.at16
  obtain ⟨c17, f17⟩ := at_ h1.pb 17 h1.at17
  obtain ⟨c18, f18⟩ := at_ h1.pb 18 h1.at18
  obtain ⟨c26, f26⟩ := at_ h1.pb 26 h26
  have j2 : (bl : Int) ≤ 541 := by omega
  have j0 : (0 : Int) ≤ (bp : Int) := by omega
  subst hcol
  obtain ⟨y0, z0, hok0, hlay0⟩ := peek h1 [] (45 :: 45 :: r) (by simpa using hS.here.fro) (by simpa using hS.here.ch) (by simp) (by simp; omega)
  obtain ⟨x0, HX0⟩ : ∃ x0, Hid (fb (45 :: 45 :: r) = x0) := ⟨_, rfl⟩
  rw [HX0.out] at hok0 hlay0
  have hx0 := hlay0.hx
  have hj0 : (bp : Int) + 0 < (bl : Int) := by have := hlay0.hi; simp at this; omega
  simp only [List.length_nil, List.length_cons, Nat.zero_add, Nat.add_zero] at hlay0 hx0
  have hj0' : (bp : Int) < (bl : Int) := by omega
  obtain rfl : x0 = 45 := HX0.out.symm.trans (fb_small (by omega))
  obtain ⟨y1, z1, hok1, hlay1⟩ := peek h1 [45] (45 :: r) (by simpa using hS.here.fro) (by simpa using hS.here.ch) (by simp) (by simp; omega)
  obtain ⟨x1, HX1⟩ : ∃ x1, Hid (fb (45 :: r) = x1) := ⟨_, rfl⟩
  rw [HX1.out] at hok1 hlay1
  have hx1 := hlay1.hx
  have hj1 : (bp : Int) + 1 < (bl : Int) := by have := hlay1.hi; simp at this; omega
  simp only [List.length_nil, List.length_cons, Nat.zero_add, Nat.add_zero] at hlay1 hx1
  obtain rfl : x1 = 45 := HX1.out.symm.trans (fb_small (by omega))
  obtain ⟨y2, z2, hok2, hlay2⟩ := peek h1 [45, 45] r (by simpa using hS.here.fro) (by simpa using hS.here.ch) (by simp) (by simp; omega)
  obtain ⟨x2, HX2⟩ : ∃ x2, Hid (fb r = x2) := ⟨_, rfl⟩
  rw [HX2.out] at hok2 hlay2
  have hx2 := hlay2.hx
  have hj2 : (bp : Int) + 2 < (bl : Int) := by have := hlay2.hi; simp at this; omega
  simp only [List.length_nil, List.length_cons, Nat.zero_add, Nat.add_zero] at hlay2 hx2
  rw [HX2.out] at hn
  have hq2 : (x2 == 45) = false := by simpa using hn
  clear hok0 hlay0 hok1 hlay1 hok2 hlay2 hn
  have HS := Lib.hid hS
  have HKK := Lib.hid hK
  rw [lit717 a hF.size hF.defers, hF.s0, hF.s1, hF.s2, hF.s7, hF.s8, hF.s9, hF.s10, hF.s11, hF.s12]
  clear h1 h24 h25 h26 h19 ho hC hF hS hK
  conv => arg 2; whnf
  try simp only [List.append]
  go_wp2_with fail
  refine wp_region_quiet_lit (by kernel_rfl) (Sp.lexB_chain _ 34 (by kernel_rfl)) ?_
  repeat (go_big_quiet_step (fail))
  refine wpQuiet_nil ?_
  rintro _ ⟨nq, rfl⟩
  go_wp2_with fail
  exact HKK.out _ _ ⟨rfl, rfl, rfl, rfl, rfl, rfl, rfl, rfl, rfl, rfl, rfl⟩ (HS.out.drewN _)
set_option maxHeartbeats 32000000 in
set_option maxRecDepth 100000 in
theorem m_c450 {k : Kn} {p t mk lo : Nat} {s0 s1 s2 : Int} {L0 : List Value} {w1 : World} (hC : Cx k p mk lo s0 s1 s2 L0 w1) {sg : Bool} {c u col : Nat} {r s lb tb ws : List Int} {sv lbv tbv wsv : Value} {a : Act} {w : World} {K : Act → World → Prop} {Q : Exit → Act → World → Prop} (hF : Fu sg p t mk sv lbv tbv wsv a) (hS : St k p lo L0 w1 c u col (45 :: 45 :: 45 :: r) s lb tb ws sv lbv tbv wsv w) (hu : 4 ≤ u) (hcol : col = 0) (hn : isBz (fb r) = false)
    (hK : ∀ a' w', Fu sg p t mk sv lbv tbv wsv a' → St k p lo L0 w1 c u col (45 :: 45 :: 45 :: r) s lb tb ws sv lbv tbv wsv w' → K a' w') :
    cM.wp Tryd.prog (Exit.then K Q) a w := by
  obtain ⟨bp, bl, mi, ml, z, L, h1, h24, h25, h26, h19, m1, m2, m3, ho⟩ := hS.here.ex
  have hsm := h1.small
  obtain ⟨c16, f16⟩ := at_ h1.pb 16 h1.at16
  obtain ⟨c17, f17⟩ := at_ h1.pb 17 h1.at17
  obtain ⟨c18, f18⟩ := at_ h1.pb 18 h1.at18
  obtain ⟨c26, f26⟩ := at_ h1.pb 26 h26
  have j2 : (bl : Int) ≤ 541 := by omega
  have j0 : (0 : Int) ≤ (bp : Int) := by omega
  subst hcol
  obtain ⟨y0, z0, hok0, hlay0⟩ := peek h1 [] (45 :: 45 :: 45 :: r) (by simpa using hS.here.fro) (by simpa using hS.here.ch) (by simp) (by simp; omega)
  obtain ⟨x0, HX0⟩ : ∃ x0, Hid (fb (45 :: 45 :: 45 :: r) = x0) := ⟨_, rfl⟩
  rw [HX0.out] at hok0 hlay0
  have hx0 := hlay0.hx
  have hj0 : (bp : Int) + 0 < (bl : Int) := by have := hlay0.hi; simp at this; omega
  simp only [List.length_nil, List.length_cons, Nat.zero_add, Nat.add_zero] at hlay0 hx0
  have hj0' : (bp : Int) < (bl : Int) := by omega
  obtain rfl : x0 = 45 := HX0.out.symm.trans (fb_small (by omega))
  obtain ⟨y1, z1, hok1, hlay1⟩ := peek h1 [45] (45 :: 45 :: r) (by simpa using hS.here.fro) (by simpa using hS.here.ch) (by simp) (by simp; omega)
  obtain ⟨x1, HX1⟩ : ∃ x1, Hid (fb (45 :: 45 :: r) = x1) := ⟨_, rfl⟩
  rw [HX1.out] at hok1 hlay1
  have hx1 := hlay1.hx
  have hj1 : (bp : Int) + 1 < (bl : Int) := by have := hlay1.hi; simp at this; omega
  simp only [List.length_nil, List.length_cons, Nat.zero_add, Nat.add_zero] at hlay1 hx1
  obtain rfl : x1 = 45 := HX1.out.symm.trans (fb_small (by omega))
  obtain ⟨y2, z2, hok2, hlay2⟩ := peek h1 [45, 45] (45 :: r) (by simpa using hS.here.fro) (by simpa using hS.here.ch) (by simp) (by simp; omega)
  obtain ⟨x2, HX2⟩ : ∃ x2, Hid (fb (45 :: r) = x2) := ⟨_, rfl⟩
  rw [HX2.out] at hok2 hlay2
  have hx2 := hlay2.hx
  have hj2 : (bp : Int) + 2 < (bl : Int) := by have := hlay2.hi; simp at this; omega
  simp only [List.length_nil, List.length_cons, Nat.zero_add, Nat.add_zero] at hlay2 hx2
  obtain rfl : x2 = 45 := HX2.out.symm.trans (fb_small (by omega))
  obtain ⟨y3, z3, hok3, hlay3⟩ := peek h1 [45, 45, 45] r (by simpa using hS.here.fro) (by simpa using hS.here.ch) (by simp) (by simp; omega)
  obtain ⟨x3, HX3⟩ : ∃ x3, Hid (fb r = x3) := ⟨_, rfl⟩
  rw [HX3.out] at hok3 hlay3
  have hx3 := hlay3.hx
  have hj3 : (bp : Int) + 3 < (bl : Int) := by have := hlay3.hi; simp at this; omega
  simp only [List.length_nil, List.length_cons, Nat.zero_add, Nat.add_zero] at hlay3 hx3
  rw [HX3.out] at hn
  have hcall : ∀ N, Calls Tryd.prog 110 #[.slice (some ⟨k.q, 0, none⟩) bl 1536, .int .i64 ((bp : Int) + 3)] (w.drewN N) fun e w' => e = .returned (.bool false) ∧ w' = w.drewN N := fun N => by
    have := blz_any k.q (bp + 3) bl 1536 x3 y3 z3 (by omega) hok3 (w.drewN N) ⟨hlay3.hi, hlay3.hx, hlay3.hy, hlay3.hz⟩
    rw [hn] at this
    exact this
  have HCALL := Lib.hid hcall
  clear hok0 hlay0 hok1 hlay1 hok2 hlay2 hok3 hlay3 hn hcall
  have HS := Lib.hid hS
  have HKK := Lib.hid hK
  rw [lit717 a hF.size hF.defers, hF.s0, hF.s1, hF.s2, hF.s7, hF.s8, hF.s9, hF.s10, hF.s11, hF.s12]
  clear h1 h24 h25 h26 h19 ho hC hF hS hK
  conv => arg 2; whnf
  try simp only [List.append]
  go_wp2_with fail
  refine wp_region_quiet_lit (by kernel_rfl) (Sp.lexB_chain _ 34 (by kernel_rfl)) ?_
  repeat (go_big_quiet_step ((go_at_call 110; exact Calls.quiet_of_same (HCALL.out _))))
  refine wpQuiet_nil ?_
  rintro _ ⟨nq, rfl⟩
  go_wp2_with fail
  exact HKK.out _ _ ⟨rfl, rfl, rfl, rfl, rfl, rfl, rfl, rfl, rfl, rfl, rfl⟩ (HS.out.drewN _)
set_option maxHeartbeats 32000000 in
set_option maxRecDepth 100000 in
theorem m_a460 {k : Kn} {p t mk lo : Nat} {s0 s1 s2 : Int} {L0 : List Value} {w1 : World} (hC : Cx k p mk lo s0 s1 s2 L0 w1) {sg : Bool} {c u col : Nat} {r s lb tb ws : List Int} {sv lbv tbv wsv : Value} {a : Act} {w : World} {K : Act → World → Prop} {Q : Exit → Act → World → Prop} (hF : Fu sg p t mk sv lbv tbv wsv a) (hS : St k p lo L0 w1 c u col (46 :: r) s lb tb ws sv lbv tbv wsv w) (hu : 2 ≤ u) (hcol : col = 0) (hn : fb r ≠ 46)
    (hK : ∀ a' w', Fu sg p t mk sv lbv tbv wsv a' → St k p lo L0 w1 c u col (46 :: r) s lb tb ws sv lbv tbv wsv w' → K a' w') :
    cM.wp Tryd.prog (Exit.then K Q) a w := by
  obtain ⟨bp, bl, mi, ml, z, L, h1, h24, h25, h26, h19, m1, m2, m3, ho⟩ := hS.here.ex
  have hsm := h1.small
  obtain ⟨c16, f16⟩ := at_ h1.pb 16 h1.at16
  obtain ⟨c17, f17⟩ := at_ h1.pb 17 h1.at17
  obtain ⟨c18, f18⟩ := at_ h1.pb 18 h1.at18
  obtain ⟨c26, f26⟩ := at_ h1.pb 26 h26
  have j2 : (bl : Int) ≤ 541 := by omega
  have j0 : (0 : Int) ≤ (bp : Int) := by omega
  subst hcol
  obtain ⟨y0, z0, hok0, hlay0⟩ := peek h1 [] (46 :: r) (by simpa using hS.here.fro) (by simpa using hS.here.ch) (by simp) (by simp; omega)
  obtain ⟨x0, HX0⟩ : ∃ x0, Hid (fb (46 :: r) = x0) := ⟨_, rfl⟩
  rw [HX0.out] at hok0 hlay0
  have hx0 := hlay0.hx
  have hj0 : (bp : Int) + 0 < (bl : Int) := by have := hlay0.hi; simp at this; omega
  simp only [List.length_nil, List.length_cons, Nat.zero_add, Nat.add_zero] at hlay0 hx0
  have hj0' : (bp : Int) < (bl : Int) := by omega
  obtain rfl : x0 = 46 := HX0.out.symm.trans (fb_small (by omega))
  obtain ⟨y1, z1, hok1, hlay1⟩ := peek h1 [46] r (by simpa using hS.here.fro) (by simpa using hS.here.ch) (by simp) (by simp; omega)
  obtain ⟨x1, HX1⟩ : ∃ x1, Hid (fb r = x1) := ⟨_, rfl⟩
  rw [HX1.out] at hok1 hlay1
  have hx1 := hlay1.hx
  have hj1 : (bp : Int) + 1 < (bl : Int) := by have := hlay1.hi; simp at this; omega
  simp only [List.length_nil, List.length_cons, Nat.zero_add, Nat.add_zero] at hlay1 hx1
  rw [HX1.out] at hn
  have hq1 : (x1 == 46) = false := by simpa using hn
  clear hok0 hlay0 hok1 hlay1 hn
  have HS := Lib.hid hS
  have HKK := Lib.hid hK
  rw [lit717 a hF.size hF.defers, hF.s0, hF.s1, hF.s2, hF.s7, hF.s8, hF.s9, hF.s10, hF.s11, hF.s12]
  clear h1 h24 h25 h26 h19 ho hC hF hS hK
  conv => arg 2; whnf
  try simp only [List.append]
  go_wp2_with fail
  refine wp_region_quiet_lit (by kernel_rfl) (Sp.lexB_chain _ 34 (by kernel_rfl)) ?_
  repeat (go_big_quiet_step (fail))
  refine wpQuiet_nil ?_
  rintro _ ⟨nq, rfl⟩
  go_wp2_with fail
  exact HKK.out _ _ ⟨rfl, rfl, rfl, rfl, rfl, rfl, rfl, rfl, rfl, rfl, rfl⟩ (HS.out.drewN _)
set_option maxHeartbeats 32000000 in
set_option maxRecDepth 100000 in
theorem m_b460 {k : Kn} {p t mk lo : Nat} {s0 s1 s2 : Int} {L0 : List Value} {w1 : World} (hC : Cx k p mk lo s0 s1 s2 L0 w1) {sg : Bool} {c u col : Nat} {r s lb tb ws : List Int} {sv lbv tbv wsv : Value} {a : Act} {w : World} {K : Act → World → Prop} {Q : Exit → Act → World → Prop} (hF : Fu sg p t mk sv lbv tbv wsv a) (hS : St k p lo L0 w1 c u col (46 :: 46 :: r) s lb tb ws sv lbv tbv wsv w) (hu : 3 ≤ u) (hcol : col = 0) (hn : fb r ≠ 46)
    (hK : ∀ a' w', Fu sg p t mk sv lbv tbv wsv a' → St k p lo L0 w1 c u col (46 :: 46 :: r) s lb tb ws sv lbv tbv wsv w' → K a' w') :
    cM.wp Tryd.prog (Exit.then K Q) a w := by
  obtain ⟨bp, bl, mi, ml, z, L, h1, h24, h25, h26, h19, m1, m2, m3, ho⟩ := hS.here.ex
  have hsm := h1.small
  obtain ⟨c16, f16⟩ := at_ h1.pb 16 h1.at16
  obtain ⟨c17, f17⟩ := at_ h1.pb 17 h1.at17
  obtain ⟨c18, f18⟩ := at_ h1.pb 18 h1.at18
  obtain ⟨c26, f26⟩ := at_ h1.pb 26 h26
  have j2 : (bl : Int) ≤ 541 := by omega
  have j0 : (0 : Int) ≤ (bp : Int) := by omega
  subst hcol
  obtain ⟨y0, z0, hok0, hlay0⟩ := peek h1 [] (46 :: 46 :: r) (by simpa using hS.here.fro) (by simpa using hS.here.ch) (by simp) (by simp; omega)
  obtain ⟨x0, HX0⟩ : ∃ x0, Hid (fb (46 :: 46 :: r) = x0) := ⟨_, rfl⟩
  rw [HX0.out] at hok0 hlay0
  have hx0 := hlay0.hx
  have hj0 : (bp : Int) + 0 < (bl : Int) := by have := hlay0.hi; simp at this; omega
  simp only [List.length_nil, List.length_cons, Nat.zero_add, Nat.add_zero] at hlay0 hx0
  have hj0' : (bp : Int) < (bl : Int) := by omega
  obtain rfl : x0 = 46 := HX0.out.symm.trans (fb_small (by omega))
  obtain ⟨y1, z1, hok1, hlay1⟩ := peek h1 [46] (46 :: r) (by simpa using hS.here.fro) (by simpa using hS.here.ch) (by simp) (by simp; omega)
  obtain ⟨x1, HX1⟩ : ∃ x1, Hid (fb (46 :: r) = x1) := ⟨_, rfl⟩
  rw [HX1.out] at hok1 hlay1
  have hx1 := hlay1.hx
  have hj1 : (bp : Int) + 1 < (bl : Int) := by have := hlay1.hi; simp at this; omega
  simp only [List.length_nil, List.length_cons, Nat.zero_add, Nat.add_zero] at hlay1 hx1
  obtain rfl : x1 = 46 := HX1.out.symm.trans (fb_small (by omega))
  obtain ⟨y2, z2, hok2, hlay2⟩ := peek h1 [46, 46] r (by simpa using hS.here.fro) (by simpa using hS.here.ch) (by simp) (by simp; omega)
  obtain ⟨x2, HX2⟩ : ∃ x2, Hid (fb r = x2) := ⟨_, rfl⟩
  rw [HX2.out] at hok2 hlay2
  have hx2 := hlay2.hx
  have hj2 : (bp : Int) + 2 < (bl : Int) := by have := hlay2.hi; simp at this; omega
  simp only [List.length_nil, List.length_cons, Nat.zero_add, Nat.add_zero] at hlay2 hx2
  rw [HX2.out] at hn
  have hq2 : (x2 == 46) = false := by simpa using hn
  clear hok0 hlay0 hok1 hlay1 hok2 hlay2 hn
  have HS := Lib.hid hS
  have HKK := Lib.hid hK
  rw [lit717 a hF.size hF.defers, hF.s0, hF.s1, hF.s2, hF.s7, hF.s8, hF.s9, hF.s10, hF.s11, hF.s12]
  clear h1 h24 h25 h26 h19 ho hC hF hS hK
  conv => arg 2; whnf
  try simp only [List.append]
  go_wp2_with fail
  refine wp_region_quiet_lit (by kernel_rfl) (Sp.lexB_chain _ 34 (by kernel_rfl)) ?_
  repeat (go_big_quiet_step (fail))
  refine wpQuiet_nil ?_
  rintro _ ⟨nq, rfl⟩
  go_wp2_with fail
  exact HKK.out _ _ ⟨rfl, rfl, rfl, rfl, rfl, rfl, rfl, rfl, rfl, rfl, rfl⟩ (HS.out.drewN _)
set_option maxHeartbeats 32000000 in
set_option maxRecDepth 100000 in
theorem m_c460 {k : Kn} {p t mk lo : Nat} {s0 s1 s2 : Int} {L0 : List Value} {w1 : World} (hC : Cx k p mk lo s0 s1 s2 L0 w1) {sg : Bool} {c u col : Nat} {r s lb tb ws : List Int} {sv lbv tbv wsv : Value} {a : Act} {w : World} {K : Act → World → Prop} {Q : Exit → Act → World → Prop} (hF : Fu sg p t mk sv lbv tbv wsv a) (hS : St k p lo L0 w1 c u col (46 :: 46 :: 46 :: r) s lb tb ws sv lbv tbv wsv w) (hu : 4 ≤ u) (hcol : col = 0) (hn : isBz (fb r) = false)
    (hK : ∀ a' w', Fu sg p t mk sv lbv tbv wsv a' → St k p lo L0 w1 c u col (46 :: 46 :: 46 :: r) s lb tb ws sv lbv tbv wsv w' → K a' w') :
    cM.wp Tryd.prog (Exit.then K Q) a w := by
  obtain ⟨bp, bl, mi, ml, z, L, h1, h24, h25, h26, h19, m1, m2, m3, ho⟩ := hS.here.ex
  have hsm := h1.small
  obtain ⟨c16, f16⟩ := at_ h1.pb 16 h1.at16
  obtain ⟨c17, f17⟩ := at_ h1.pb 17 h1.at17
  obtain ⟨c18, f18⟩ := at_ h1.pb 18 h1.at18
  obtain ⟨c26, f26⟩ := at_ h1.pb 26 h26
  have j2 : (bl : Int) ≤ 541 := by omega
  have j0 : (0 : Int) ≤ (bp : Int) := by omega
  subst hcol
  obtain ⟨y0, z0, hok0, hlay0⟩ := peek h1 [] (46 :: 46 :: 46 :: r) (by simpa using hS.here.fro) (by simpa using hS.here.ch) (by simp) (by simp; omega)
  obtain ⟨x0, HX0⟩ : ∃ x0, Hid (fb (46 :: 46 :: 46 :: r) = x0) := ⟨_, rfl⟩
  rw [HX0.out] at hok0 hlay0
  have hx0 := hlay0.hx
  have hj0 : (bp : Int) + 0 < (bl : Int) := by have := hlay0.hi; simp at this; omega
  simp only [List.length_nil, List.length_cons, Nat.zero_add, Nat.add_zero] at hlay0 hx0
  have hj0' : (bp : Int) < (bl : Int) := by omega
  obtain rfl : x0 = 46 := HX0.out.symm.trans (fb_small (by omega))
  obtain ⟨y1, z1, hok1, hlay1⟩ := peek h1 [46] (46 :: 46 :: r) (by simpa using hS.here.fro) (by simpa using hS.here.ch) (by simp) (by simp; omega)
  obtain ⟨x1, HX1⟩ : ∃ x1, Hid (fb (46 :: 46 :: r) = x1) := ⟨_, rfl⟩
  rw [HX1.out] at hok1 hlay1
  have hx1 := hlay1.hx
  have hj1 : (bp : Int) + 1 < (bl : Int) := by have := hlay1.hi; simp at this; omega
  simp only [List.length_nil, List.length_cons, Nat.zero_add, Nat.add_zero] at hlay1 hx1
  obtain rfl : x1 = 46 := HX1.out.symm.trans (fb_small (by omega))
  obtain ⟨y2, z2, hok2, hlay2⟩ := peek h1 [46, 46] (46 :: r) (by simpa using hS.here.fro) (by simpa using hS.here.ch) (by simp) (by simp; omega)
  obtain ⟨x2, HX2⟩ : ∃ x2, Hid (fb (46 :: r) = x2) := ⟨_, rfl⟩
  rw [HX2.out] at hok2 hlay2
  have hx2 := hlay2.hx
  have hj2 : (bp : Int) + 2 < (bl : Int) := by have := hlay2.hi; simp at this; omega
  simp only [List.length_nil, List.length_cons, Nat.zero_add, Nat.add_zero] at hlay2 hx2
  obtain rfl : x2 = 46 := HX2.out.symm.trans (fb_small (by omega))
  obtain ⟨y3, z3, hok3, hlay3⟩ := peek h1 [46, 46, 46] r (by simpa using hS.here.fro) (by simpa using hS.here.ch) (by simp) (by simp; omega)
  obtain ⟨x3, HX3⟩ : ∃ x3, Hid (fb r = x3) := ⟨_, rfl⟩
  rw [HX3.out] at hok3 hlay3
  have hx3 := hlay3.hx
  have hj3 : (bp : Int) + 3 < (bl : Int) := by have := hlay3.hi; simp at this; omega
  simp only [List.length_nil, List.length_cons, Nat.zero_add, Nat.add_zero] at hlay3 hx3
  rw [HX3.out] at hn
  have hcall : ∀ N, Calls Tryd.prog 110 #[.slice (some ⟨k.q, 0, none⟩) bl 1536, .int .i64 ((bp : Int) + 3)] (w.drewN N) fun e w' => e = .returned (.bool false) ∧ w' = w.drewN N := fun N => by
    have := blz_any k.q (bp + 3) bl 1536 x3 y3 z3 (by omega) hok3 (w.drewN N) ⟨hlay3.hi, hlay3.hx, hlay3.hy, hlay3.hz⟩
    rw [hn] at this
    exact this
  have HCALL := Lib.hid hcall
  clear hok0 hlay0 hok1 hlay1 hok2 hlay2 hok3 hlay3 hn hcall
  have HS := Lib.hid hS
  have HKK := Lib.hid hK
  rw [lit717 a hF.size hF.defers, hF.s0, hF.s1, hF.s2, hF.s7, hF.s8, hF.s9, hF.s10, hF.s11, hF.s12]
  clear h1 h24 h25 h26 h19 ho hC hF hS hK
  conv => arg 2; whnf
  try simp only [List.append]
  go_wp2_with fail
  refine wp_region_quiet_lit (by kernel_rfl) (Sp.lexB_chain _ 34 (by kernel_rfl)) ?_
  repeat (go_big_quiet_step ((go_at_call 110; exact Calls.quiet_of_same (HCALL.out _))))
  refine wpQuiet_nil ?_
  rintro _ ⟨nq, rfl⟩
  go_wp2_with fail
  exact HKK.out _ _ ⟨rfl, rfl, rfl, rfl, rfl, rfl, rfl, rfl, rfl, rfl, rfl⟩ (HS.out.drewN _)
theorem sM0 {k : Kn} {p t mk lo : Nat} {s0 s1 s2 : Int} {L0 : List Value} {w1 : World} (hC : Cx k p mk lo s0 s1 s2 L0 w1) {sg : Bool} {c u col : Nat} {rest s lb tb ws : List Int} {sv lbv tbv wsv : Value} {a : Act} {w : World} {K : Act → World → Prop} {Q : Exit → Act → World → Prop} (hF : Fu sg p t mk sv lbv tbv wsv a) (hS : St k p lo L0 w1 c u col rest s lb tb ws sv lbv tbv wsv w) (hR : Rdy k.T c 4 u) (hu1 : 1 ≤ u) (hL : Lfd rest) (hM : col = 0 → marker rest = false)
    (hK : ∀ a' w', Fu sg p t mk sv lbv tbv wsv a' → St k p lo L0 w1 c u col rest s lb tb ws sv lbv tbv wsv w' → K a' w') :
    cM.wp Tryd.prog (Exit.then K Q) a w := by
  by_cases hcol : col = 0
  · by_cases hb0 : fb rest = 45
    · obtain ⟨r, rfl⟩ := fb_inv hS.here.ch hb0 (by omega) (by omega)
      have hr : r ≠ [] := by
        rintro rfl
        have := hL.last
        omega
      have hu2 : 2 ≤ u := hS.here.has hR (by omega) (by cases r; exact absurd rfl hr; simp)
      by_cases hb1 : fb r = 45
      · obtain ⟨r2, rfl⟩ := fb_inv (fun x hx => hS.here.ch x (by simp [hx])) hb1 (by omega) (by omega)
        have hr2 : r2 ≠ [] := by
          rintro rfl
          have := hL.tail.last
          omega
        have hu3 : 3 ≤ u := hS.here.has hR (by omega) (by cases r2; exact absurd rfl hr2; simp)
        by_cases hb2 : fb r2 = 45
        · obtain ⟨r3, rfl⟩ := fb_inv (fun x hx => hS.here.ch x (by simp [hx])) hb2 (by omega) (by omega)
          cases r3 with
          | nil =>
            have := hL.tail.tail.last
            omega
          | cons d r4 =>
            have hu4 : 4 ≤ u := hS.here.has hR (Nat.le_refl _) (by simp)
            refine m_c450 hC hF hS hu4 hcol ?_ hK
            have hm := hM hcol
            have hd := hS.here.ch d (by simp)
            have hm' : (wh d || d == 10) = false := by simpa [marker] using hm
            rw [Bool.or_eq_false_iff] at hm'
            by_cases hl : d < 128
            · rw [fb_small hl]
              have h4 := hd.range
              have h5 : d ≠ 32 ∧ d ≠ 9 := by
                have := hm'.1
                unfold wh at this
                simpa using this
              have h6 : d ≠ 10 := by simpa using hm'.2
              exact isBz_no h5.1 h5.2 h6 (by omega)
            · have := fb_great (r := r4) hd (by omega)
              exact isBz_no (by omega) (by omega) (by omega) (by omega)
        · exact m_b450 hC hF hS hu3 hcol hb2 hK
      · exact m_a450 hC hF hS hu2 hcol hb1 hK
    · by_cases hb0' : fb rest = 46
      · have hb0 := hb0'
        obtain ⟨r, rfl⟩ := fb_inv hS.here.ch hb0 (by omega) (by omega)
        have hr : r ≠ [] := by
          rintro rfl
          have := hL.last
          omega
        have hu2 : 2 ≤ u := hS.here.has hR (by omega) (by cases r; exact absurd rfl hr; simp)
        by_cases hb1 : fb r = 46
        · obtain ⟨r2, rfl⟩ := fb_inv (fun x hx => hS.here.ch x (by simp [hx])) hb1 (by omega) (by omega)
          have hr2 : r2 ≠ [] := by
            rintro rfl
            have := hL.tail.last
            omega
          have hu3 : 3 ≤ u := hS.here.has hR (by omega) (by cases r2; exact absurd rfl hr2; simp)
          by_cases hb2 : fb r2 = 46
          · obtain ⟨r3, rfl⟩ := fb_inv (fun x hx => hS.here.ch x (by simp [hx])) hb2 (by omega) (by omega)
            cases r3 with
            | nil =>
              have := hL.tail.tail.last
              omega
            | cons d r4 =>
              have hu4 : 4 ≤ u := hS.here.has hR (Nat.le_refl _) (by simp)
              refine m_c460 hC hF hS hu4 hcol ?_ hK
              have hm := hM hcol
              have hd := hS.here.ch d (by simp)
              have hm' : (wh d || d == 10) = false := by simpa [marker] using hm
              rw [Bool.or_eq_false_iff] at hm'
              by_cases hl : d < 128
              · rw [fb_small hl]
                have h4 := hd.range
                have h5 : d ≠ 32 ∧ d ≠ 9 := by
                  have := hm'.1
                  unfold wh at this
                  simpa using this
                have h6 : d ≠ 10 := by simpa using hm'.2
                exact isBz_no h5.1 h5.2 h6 (by omega)
              · have := fb_great (r := r4) hd (by omega)
                exact isBz_no (by omega) (by omega) (by omega) (by omega)
          · exact m_b460 hC hF hS hu3 hcol hb2 hK
        · exact m_a460 hC hF hS hu2 hcol hb1 hK
      · exact m_no0 hC hF hS hu1 hcol hb0 hb0' hK
  · exact m_col0 hC hF hS hcol hK
end Go.Proofs.YtocbbekciphjgaaDoor.Qd
