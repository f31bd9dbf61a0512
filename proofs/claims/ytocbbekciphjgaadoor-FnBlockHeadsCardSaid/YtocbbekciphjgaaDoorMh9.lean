/- QiB, QiC: parts of the proof, one behind another. -/
import Derived.Test.YtocbbekciphjgaaDoorMh7
/- QiB -/
/- The lines of a block scalar (yaml_parser_scan_block_scalar): the looks, the walks. Printed by genQi.py. -/
namespace Go.Proofs.YtocbbekciphjgaaDoor.Bs
open Go.RowKit Go.Proofs.YtocbbekciphjgaaDoor.Rdp Go.Proofs.YtocbbekciphjgaaDoor.Pa Go.Proofs.YtocbbekciphjgaaDoor.Sc Go.Proofs.YtocbbekciphjgaaDoor.Qd
set_option linter.unusedVariables false
set_option linter.unusedSimpArgs false
set_option maxHeartbeats 32000000 in
set_option maxRecDepth 100000 in
theorem q61 {k : Kn} {p t mk lo ib bb eb : Nat} {s0 s1 s2 : Int} {L0 : List Value} {pn : Int} {w1 : World} (hC : Cq k p mk lo ib bb eb s0 s1 s2 L0 pn w1) {li : Bool} {ch : Int} {c u col d tb : Nat} {rest s lb : List Int} {sv lbv tbv v15 v16 : Value} {a : Act} {w : World} {K : Act → World → Prop} {Q : Exit → Act → World → Prop} (hF : Fq p t mk li ch eb ib bb sv lbv v15 v16 a) (hS : Sq k p lo ib bb eb L0 w1 c u col rest d s lb tb sv lbv tbv w)
    (hK : ∀ a' w' u', Fq p t mk li ch eb ib bb sv lbv v15 v16 a' → Sq k p lo ib bb eb L0 w1 c u' col rest d s lb tb sv lbv tbv w' → Rdy k.T c 1 u' → 1 ≤ u' → K a' w') :
    gU61.wp Tryd.prog (Exit.then K Q) a w := by
  have hub0 : Calls Tryd.prog 101 #[.pointer (some ⟨p, 0, none⟩), .int .i64 1] w fun e w' => e = .returned (.bool true) ∧ Filled k p L0 c 1 col rest w w' := hS.here.ub hC.cb.round 1 (by omega) (by omega) (by have := hS.kp.size; have := hC.low; have := hC.cb.two; omega)
  have hub := Lib.hid hub0
  clear hub0
  have HS := Lib.hid hS
  have HKK := Lib.hid hK
  have HC := Lib.hid hC
  obtain ⟨bp, bl, mi, ml, z, L, h1, h24, h25, h26, h19, m1, m2, m3, ho⟩ := hS.here.ex
  have hsm := h1.small
  obtain ⟨c16, f16⟩ := at_ h1.pb 16 h1.at16
  obtain ⟨c17, f17⟩ := at_ h1.pb 17 h1.at17
  obtain ⟨c18, f18⟩ := at_ h1.pb 18 h1.at18
  obtain ⟨c26, f26⟩ := at_ h1.pb 26 h26
  have j2 : (bl : Int) ≤ 541 := by omega
  have j0 : (0 : Int) ≤ (bp : Int) := by omega
  by_cases hlt : u < 1
  · have e1 : decide ((u : Int) < 1) = true := by simp; omega
    have e2 : (u : Int) < 1 := by omega
    rw [lit464 a hF.size hF.defers, hF.s0, hF.s1, hF.s2, hF.s7, hF.s8, hF.s10, hF.s11, hF.s12, hF.s13, hF.s14, hF.s15, hF.s16]
    clear h1 h24 h25 h26 h19 ho hC hF hS hK
    conv => arg 2; whnf
    try simp only [List.append]
    go_wp2_with fail
    refine hub.out.mono ?_
    rintro e w' ⟨rfl, ⟨u', hr, hu', hat⟩, hkp, hsz⟩
    have hst := HS.out.turn HC.out.cb hkp hat (Nat.le_refl _)
    have HST := Lib.hid hst
    have HR := Lib.hid hr
    clear hst hr hat hkp hsz hub HS c16 f16 c17 f17 c18 f18 c26 f26
    go_wp2_with fail
    exact HKK.out _ _ u' ⟨rfl, rfl, rfl, rfl, rfl, rfl, rfl, rfl, rfl, rfl, rfl, rfl, rfl, rfl⟩ (HST.out.drewN 0) HR.out hu'
  · have e1 : decide ((u : Int) < 1) = false := by simp; omega
    have e2 : ¬ ((u : Int) < 1) := by omega
    rw [lit464 a hF.size hF.defers, hF.s0, hF.s1, hF.s2, hF.s7, hF.s8, hF.s10, hF.s11, hF.s12, hF.s13, hF.s14, hF.s15, hF.s16]
    clear h1 h24 h25 h26 h19 ho hC hF hS hK hub
    conv => arg 2; whnf
    try simp only [List.append]
    go_wp2_with fail
    exact HKK.out _ _ u ⟨rfl, rfl, rfl, rfl, rfl, rfl, rfl, rfl, rfl, rfl, rfl, rfl, rfl, rfl⟩ HS.out (.inl (by omega)) (by omega)
set_option maxHeartbeats 32000000 in
set_option maxRecDepth 100000 in
theorem q76 {k : Kn} {p t mk lo ib bb eb : Nat} {s0 s1 s2 : Int} {L0 : List Value} {pn : Int} {w1 : World} (hC : Cq k p mk lo ib bb eb s0 s1 s2 L0 pn w1) {li : Bool} {ch : Int} {c u col d tb : Nat} {rest s lb : List Int} {sv lbv tbv v15 v16 : Value} {a : Act} {w : World} {K : Act → World → Prop} {Q : Exit → Act → World → Prop} (hF : Fq p t mk li ch eb ib bb sv lbv v15 v16 a) (hS : Sq k p lo ib bb eb L0 w1 c u col rest d s lb tb sv lbv tbv w)
    (hK : ∀ a' w' u', Fq p t mk li ch eb ib bb sv lbv v15 v16 a' → Sq k p lo ib bb eb L0 w1 c u' col rest d s lb tb sv lbv tbv w' → Rdy k.T c 1 u' → 1 ≤ u' → K a' w') :
    gU76.wp Tryd.prog (Exit.then K Q) a w := by
  have hub0 : Calls Tryd.prog 101 #[.pointer (some ⟨p, 0, none⟩), .int .i64 1] w fun e w' => e = .returned (.bool true) ∧ Filled k p L0 c 1 col rest w w' := hS.here.ub hC.cb.round 1 (by omega) (by omega) (by have := hS.kp.size; have := hC.low; have := hC.cb.two; omega)
  have hub := Lib.hid hub0
  clear hub0
  have HS := Lib.hid hS
  have HKK := Lib.hid hK
  have HC := Lib.hid hC
  obtain ⟨bp, bl, mi, ml, z, L, h1, h24, h25, h26, h19, m1, m2, m3, ho⟩ := hS.here.ex
  have hsm := h1.small
  obtain ⟨c16, f16⟩ := at_ h1.pb 16 h1.at16
  obtain ⟨c17, f17⟩ := at_ h1.pb 17 h1.at17
  obtain ⟨c18, f18⟩ := at_ h1.pb 18 h1.at18
  obtain ⟨c26, f26⟩ := at_ h1.pb 26 h26
  have j2 : (bl : Int) ≤ 541 := by omega
  have j0 : (0 : Int) ≤ (bp : Int) := by omega
  by_cases hlt : u < 1
  · have e1 : decide ((u : Int) < 1) = true := by simp; omega
    have e2 : (u : Int) < 1 := by omega
    rw [lit464 a hF.size hF.defers, hF.s0, hF.s1, hF.s2, hF.s7, hF.s8, hF.s10, hF.s11, hF.s12, hF.s13, hF.s14, hF.s15, hF.s16]
    clear h1 h24 h25 h26 h19 ho hC hF hS hK
    conv => arg 2; whnf
    try simp only [List.append]
    go_wp2_with fail
    refine hub.out.mono ?_
    rintro e w' ⟨rfl, ⟨u', hr, hu', hat⟩, hkp, hsz⟩
    have hst := HS.out.turn HC.out.cb hkp hat (Nat.le_refl _)
    have HST := Lib.hid hst
    have HR := Lib.hid hr
    clear hst hr hat hkp hsz hub HS c16 f16 c17 f17 c18 f18 c26 f26
    go_wp2_with fail
    exact HKK.out _ _ u' ⟨rfl, rfl, rfl, rfl, rfl, rfl, rfl, rfl, rfl, rfl, rfl, rfl, rfl, rfl⟩ (HST.out.drewN 0) HR.out hu'
  · have e1 : decide ((u : Int) < 1) = false := by simp; omega
    have e2 : ¬ ((u : Int) < 1) := by omega
    rw [lit464 a hF.size hF.defers, hF.s0, hF.s1, hF.s2, hF.s7, hF.s8, hF.s10, hF.s11, hF.s12, hF.s13, hF.s14, hF.s15, hF.s16]
    clear h1 h24 h25 h26 h19 ho hC hF hS hK hub
    conv => arg 2; whnf
    try simp only [List.append]
    go_wp2_with fail
    exact HKK.out _ _ u ⟨rfl, rfl, rfl, rfl, rfl, rfl, rfl, rfl, rfl, rfl, rfl, rfl, rfl, rfl⟩ HS.out (.inl (by omega)) (by omega)
set_option maxHeartbeats 32000000 in
set_option maxRecDepth 100000 in
theorem q78 {k : Kn} {p t mk lo ib bb eb : Nat} {s0 s1 s2 : Int} {L0 : List Value} {pn : Int} {w1 : World} (hC : Cq k p mk lo ib bb eb s0 s1 s2 L0 pn w1) {li : Bool} {ch : Int} {c u col d tb : Nat} {rest s lb : List Int} {sv lbv tbv v15 v16 : Value} {a : Act} {w : World} {K : Act → World → Prop} {Q : Exit → Act → World → Prop} (hF : Fq p t mk li ch eb ib bb sv lbv v15 v16 a) (hS : Sq k p lo ib bb eb L0 w1 c u col rest d s lb tb sv lbv tbv w)
    (hK : ∀ a' w' u', Fq p t mk li ch eb ib bb sv lbv v15 v16 a' → Sq k p lo ib bb eb L0 w1 c u' col rest d s lb tb sv lbv tbv w' → Rdy k.T c 2 u' → 1 ≤ u' → K a' w') :
    gU78.wp Tryd.prog (Exit.then K Q) a w := by
  have hub0 : Calls Tryd.prog 101 #[.pointer (some ⟨p, 0, none⟩), .int .i64 2] w fun e w' => e = .returned (.bool true) ∧ Filled k p L0 c 2 col rest w w' := hS.here.ub hC.cb.round 2 (by omega) (by omega) (by have := hS.kp.size; have := hC.low; have := hC.cb.two; omega)
  have hub := Lib.hid hub0
  clear hub0
  have HS := Lib.hid hS
  have HKK := Lib.hid hK
  have HC := Lib.hid hC
  obtain ⟨bp, bl, mi, ml, z, L, h1, h24, h25, h26, h19, m1, m2, m3, ho⟩ := hS.here.ex
  have hsm := h1.small
  obtain ⟨c16, f16⟩ := at_ h1.pb 16 h1.at16
  obtain ⟨c17, f17⟩ := at_ h1.pb 17 h1.at17
  obtain ⟨c18, f18⟩ := at_ h1.pb 18 h1.at18
  obtain ⟨c26, f26⟩ := at_ h1.pb 26 h26
  have j2 : (bl : Int) ≤ 541 := by omega
  have j0 : (0 : Int) ≤ (bp : Int) := by omega
  by_cases hlt : u < 2
  · have e1 : decide ((u : Int) < 2) = true := by simp; omega
    have e2 : (u : Int) < 2 := by omega
    rw [lit464 a hF.size hF.defers, hF.s0, hF.s1, hF.s2, hF.s7, hF.s8, hF.s10, hF.s11, hF.s12, hF.s13, hF.s14, hF.s15, hF.s16]
    clear h1 h24 h25 h26 h19 ho hC hF hS hK
    conv => arg 2; whnf
    try simp only [List.append]
    go_wp2_with fail
    refine hub.out.mono ?_
    rintro e w' ⟨rfl, ⟨u', hr, hu', hat⟩, hkp, hsz⟩
    have hst := HS.out.turn HC.out.cb hkp hat (Nat.le_refl _)
    have HST := Lib.hid hst
    have HR := Lib.hid hr
    clear hst hr hat hkp hsz hub HS c16 f16 c17 f17 c18 f18 c26 f26
    go_wp2_with fail
    exact HKK.out _ _ u' ⟨rfl, rfl, rfl, rfl, rfl, rfl, rfl, rfl, rfl, rfl, rfl, rfl, rfl, rfl⟩ (HST.out.drewN 0) HR.out hu'
  · have e1 : decide ((u : Int) < 2) = false := by simp; omega
    have e2 : ¬ ((u : Int) < 2) := by omega
    rw [lit464 a hF.size hF.defers, hF.s0, hF.s1, hF.s2, hF.s7, hF.s8, hF.s10, hF.s11, hF.s12, hF.s13, hF.s14, hF.s15, hF.s16]
    clear h1 h24 h25 h26 h19 ho hC hF hS hK hub
    conv => arg 2; whnf
    try simp only [List.append]
    go_wp2_with fail
    exact HKK.out _ _ u ⟨rfl, rfl, rfl, rfl, rfl, rfl, rfl, rfl, rfl, rfl, rfl, rfl, rfl, rfl⟩ HS.out (.inl (by omega)) (by omega)
set_option maxHeartbeats 32000000 in
set_option maxRecDepth 100000 in
theorem q64 {k : Kn} {p t mk lo ib bb eb : Nat} {s0 s1 s2 : Int} {L0 : List Value} {pn : Int} {w1 : World} (hC : Cq k p mk lo ib bb eb s0 s1 s2 L0 pn w1) {li : Bool} {ch : Int} {c u col d tb : Nat} {rest s lb : List Int} {sv lbv tbv v15 v16 : Value} {a : Act} {w : World} {K : Act → World → Prop} {Q : Exit → Act → World → Prop} (hF : Fq p t mk li ch eb ib bb sv lbv v15 v16 a) (hS : Sq k p lo ib bb eb L0 w1 c u col rest d s lb tb sv lbv tbv w) (hu1 : 1 ≤ u)
    (hK : ∀ a' w', Fq p t mk li ch eb ib bb sv lbv v15 v16 a' → Sq k p lo ib bb eb L0 w1 c u col rest d s lb tb sv lbv tbv w' → gt a' 347 = .bool ((col == d) && !(fb rest == 0)) → K a' w') :
    g64.wp Tryd.prog (Exit.then K Q) a w := by
  obtain ⟨bp, bl, mi, ml, z, L, h1, h24, h25, h26, h19, m1, m2, m3, ho⟩ := hS.here.ex
  have hsm := h1.small
  obtain ⟨c16, f16⟩ := at_ h1.pb 16 h1.at16
  obtain ⟨c17, f17⟩ := at_ h1.pb 17 h1.at17
  obtain ⟨c18, f18⟩ := at_ h1.pb 18 h1.at18
  obtain ⟨c26, f26⟩ := at_ h1.pb 26 h26
  have j2 : (bl : Int) ≤ 541 := by omega
  have j0 : (0 : Int) ≤ (bp : Int) := by omega
  obtain ⟨y0, z0, hok0, hlay0⟩ := peek h1 [] rest (by simpa using hS.here.fro) (by simpa using hS.here.ch) (by simp) (by simp; omega)
  obtain ⟨x0, HX0⟩ : ∃ x0, Hid (fb rest = x0) := ⟨_, rfl⟩
  rw [HX0.out] at hok0 hlay0
  have hx0 := hlay0.hx
  have hj0 : (bp : Int) + 0 < (bl : Int) := by have := hlay0.hi; simp at this; omega
  simp only [List.length_nil, List.length_cons, Nat.zero_add, Nat.add_zero] at hlay0 hx0
  have hj0' : (bp : Int) < (bl : Int) := by omega
  obtain ⟨ci, fi⟩ := at_ hS.bi 0 (v := .int .i64 (d : Nat)) rfl
  have hcall : ∀ N, Calls Tryd.prog 114 #[.slice (some ⟨k.q, 0, none⟩) bl 1536, .int .i64 bp] (w.drewN N) fun e w' => e = .returned (.bool (x0 == 0)) ∧ w' = w.drewN N := fun N => z_any k.q bp bl 1536 x0 (by have := hlay0.hi; omega) (by omega) hok0.x0 (by have := hok0.x1; omega) (w.drewN N) hx0
  rw [HX0.out] at hK
  obtain ⟨b1, hb1⟩ : ∃ b, (x0 == 0) = b := ⟨_, rfl⟩
  obtain ⟨b0, hb0⟩ : ∃ b, (col == d) = b := ⟨_, rfl⟩
  have i0 : ((col : Int) == (d : Int)) = b0 := by rw [← hb0, Bool.eq_iff_iff]; simp; omega
  rw [hb1] at hcall hK
  rw [hb0] at hK
  have HCALL := Lib.hid hcall
  have HS := Lib.hid hS
  have HKK := Lib.hid hK
  rw [lit464 a hF.size hF.defers, hF.s0, hF.s1, hF.s2, hF.s7, hF.s8, hF.s10, hF.s11, hF.s12, hF.s13, hF.s14, hF.s15, hF.s16]
  clear h1 h24 h25 h26 h19 ho hC hF hS hK hcall hok0 hlay0 hx0 hb1
  conv => arg 2; whnf
  try simp only [List.append]
  cases b0 <;> cases b1
  all_goals
    go_wp2_with fail
    go_quiet ((go_at_call 114; first | exact Calls.quiet_of_same (HCALL.out _) | exact quiet_add_same (HCALL.out _)))
    go_wp2_with fail
    exact HKK.out _ _ ⟨rfl, rfl, rfl, rfl, rfl, rfl, rfl, rfl, rfl, rfl, rfl, rfl, rfl, rfl⟩ (HS.out.drewN _) rfl
set_option maxHeartbeats 32000000 in
set_option maxRecDepth 100000 in
theorem q65 {k : Kn} {p t mk lo ib bb eb : Nat} {s0 s1 s2 : Int} {L0 : List Value} {pn : Int} {w1 : World} (hC : Cq k p mk lo ib bb eb s0 s1 s2 L0 pn w1) {li : Bool} {ch : Int} {c u col d tb : Nat} {rest s lb : List Int} {sv lbv tbv v15 v16 : Value} {a : Act} {w : World} {K : Act → World → Prop} {Q : Exit → Act → World → Prop} (hF : Fq p t mk li ch eb ib bb sv lbv v15 v16 a) (hS : Sq k p lo ib bb eb L0 w1 c u col rest d s lb tb sv lbv tbv w) (hu1 : 1 ≤ u)
    (hK : ∀ a' w', Fq p t mk li ch eb ib bb sv lbv v15 (.bool (isBlank (fb rest))) a' → Sq k p lo ib bb eb L0 w1 c u col rest d s lb tb sv lbv tbv w' → K a' w') :
    g65.wp Tryd.prog (Exit.then K Q) a w := by
  obtain ⟨bp, bl, mi, ml, z, L, h1, h24, h25, h26, h19, m1, m2, m3, ho⟩ := hS.here.ex
  have hsm := h1.small
  obtain ⟨c16, f16⟩ := at_ h1.pb 16 h1.at16
  obtain ⟨c17, f17⟩ := at_ h1.pb 17 h1.at17
  obtain ⟨c18, f18⟩ := at_ h1.pb 18 h1.at18
  obtain ⟨c26, f26⟩ := at_ h1.pb 26 h26
  have j2 : (bl : Int) ≤ 541 := by omega
  have j0 : (0 : Int) ≤ (bp : Int) := by omega
  obtain ⟨y0, z0, hok0, hlay0⟩ := peek h1 [] rest (by simpa using hS.here.fro) (by simpa using hS.here.ch) (by simp) (by simp; omega)
  obtain ⟨x0, HX0⟩ : ∃ x0, Hid (fb rest = x0) := ⟨_, rfl⟩
  rw [HX0.out] at hok0 hlay0
  have hx0 := hlay0.hx
  have hj0 : (bp : Int) + 0 < (bl : Int) := by have := hlay0.hi; simp at this; omega
  simp only [List.length_nil, List.length_cons, Nat.zero_add, Nat.add_zero] at hlay0 hx0
  have hj0' : (bp : Int) < (bl : Int) := by omega
  have hcall : ∀ N, Calls Tryd.prog 102 #[.slice (some ⟨k.q, 0, none⟩) bl 1536, .int .i64 bp] (w.drewN N) fun e w' => e = .returned (.bool (isBlank x0)) ∧ w' = w.drewN N := fun N => blank_any k.q bp bl 1536 x0 (w.drewN N) (by have := hlay0.hi; omega) (by omega) hx0
  rw [HX0.out] at hK
  obtain ⟨b1, hb1⟩ : ∃ b, (isBlank x0) = b := ⟨_, rfl⟩
  rw [hb1] at hcall hK
  have HCALL := Lib.hid hcall
  have HS := Lib.hid hS
  have HKK := Lib.hid hK
  rw [lit464 a hF.size hF.defers, hF.s0, hF.s1, hF.s2, hF.s7, hF.s8, hF.s10, hF.s11, hF.s12, hF.s13, hF.s14, hF.s15, hF.s16]
  clear h1 h24 h25 h26 h19 ho hC hF hS hK hcall hok0 hlay0 hx0 hb1
  conv => arg 2; whnf
  try simp only [List.append]
  go_wp2_with fail
  go_quiet ((go_at_call 102; exact Calls.quiet_of_same (HCALL.out _)))
  go_wp2_with fail
  exact HKK.out _ _ ⟨rfl, rfl, rfl, rfl, rfl, rfl, rfl, rfl, rfl, rfl, rfl, rfl, rfl, rfl⟩ (HS.out.drewN _)
set_option maxHeartbeats 32000000 in
set_option maxRecDepth 100000 in
theorem q73 {k : Kn} {p t mk lo ib bb eb : Nat} {s0 s1 s2 : Int} {L0 : List Value} {pn : Int} {w1 : World} (hC : Cq k p mk lo ib bb eb s0 s1 s2 L0 pn w1) {li : Bool} {ch : Int} {c u col d tb : Nat} {rest s lb : List Int} {sv lbv tbv v15 v16 : Value} {a : Act} {w : World} {K : Act → World → Prop} {Q : Exit → Act → World → Prop} (hF : Fq p t mk li ch eb ib bb sv lbv v15 v16 a) (hS : Sq k p lo ib bb eb L0 w1 c u col rest d s lb tb sv lbv tbv w) (hu1 : 1 ≤ u)
    (hK : ∀ a' w', Fq p t mk li ch eb ib bb sv lbv (.bool (isBlank (fb rest))) v16 a' → Sq k p lo ib bb eb L0 w1 c u col rest d s lb tb sv lbv tbv w' → K a' w') :
    g73.wp Tryd.prog (Exit.then K Q) a w := by
  obtain ⟨bp, bl, mi, ml, z, L, h1, h24, h25, h26, h19, m1, m2, m3, ho⟩ := hS.here.ex
  have hsm := h1.small
  obtain ⟨c16, f16⟩ := at_ h1.pb 16 h1.at16
  obtain ⟨c17, f17⟩ := at_ h1.pb 17 h1.at17
  obtain ⟨c18, f18⟩ := at_ h1.pb 18 h1.at18
  obtain ⟨c26, f26⟩ := at_ h1.pb 26 h26
  have j2 : (bl : Int) ≤ 541 := by omega
  have j0 : (0 : Int) ≤ (bp : Int) := by omega
  obtain ⟨y0, z0, hok0, hlay0⟩ := peek h1 [] rest (by simpa using hS.here.fro) (by simpa using hS.here.ch) (by simp) (by simp; omega)
  obtain ⟨x0, HX0⟩ : ∃ x0, Hid (fb rest = x0) := ⟨_, rfl⟩
  rw [HX0.out] at hok0 hlay0
  have hx0 := hlay0.hx
  have hj0 : (bp : Int) + 0 < (bl : Int) := by have := hlay0.hi; simp at this; omega
  simp only [List.length_nil, List.length_cons, Nat.zero_add, Nat.add_zero] at hlay0 hx0
  have hj0' : (bp : Int) < (bl : Int) := by omega
  have hcall : ∀ N, Calls Tryd.prog 102 #[.slice (some ⟨k.q, 0, none⟩) bl 1536, .int .i64 bp] (w.drewN N) fun e w' => e = .returned (.bool (isBlank x0)) ∧ w' = w.drewN N := fun N => blank_any k.q bp bl 1536 x0 (w.drewN N) (by have := hlay0.hi; omega) (by omega) hx0
  rw [HX0.out] at hK
  obtain ⟨b1, hb1⟩ : ∃ b, (isBlank x0) = b := ⟨_, rfl⟩
  rw [hb1] at hcall hK
  have HCALL := Lib.hid hcall
  have HS := Lib.hid hS
  have HKK := Lib.hid hK
  rw [lit464 a hF.size hF.defers, hF.s0, hF.s1, hF.s2, hF.s7, hF.s8, hF.s10, hF.s11, hF.s12, hF.s13, hF.s14, hF.s15, hF.s16]
  clear h1 h24 h25 h26 h19 ho hC hF hS hK hcall hok0 hlay0 hx0 hb1
  conv => arg 2; whnf
  try simp only [List.append]
  go_wp2_with fail
  go_quiet ((go_at_call 102; exact Calls.quiet_of_same (HCALL.out _)))
  go_wp2_with fail
  exact HKK.out _ _ ⟨rfl, rfl, rfl, rfl, rfl, rfl, rfl, rfl, rfl, rfl, rfl, rfl, rfl, rfl⟩ (HS.out.drewN _)
set_option maxHeartbeats 32000000 in
set_option maxRecDepth 100000 in
theorem q74 {k : Kn} {p t mk lo ib bb eb : Nat} {s0 s1 s2 : Int} {L0 : List Value} {pn : Int} {w1 : World} (hC : Cq k p mk lo ib bb eb s0 s1 s2 L0 pn w1) {li : Bool} {ch : Int} {c u col d tb : Nat} {rest s lb : List Int} {sv lbv tbv v15 v16 : Value} {a : Act} {w : World} {K : Act → World → Prop} {Q : Exit → Act → World → Prop} (hF : Fq p t mk li ch eb ib bb sv lbv v15 v16 a) (hS : Sq k p lo ib bb eb L0 w1 c u col rest d s lb tb sv lbv tbv w) (hu1 : 1 ≤ u)
    (hK : ∀ a' w', Fq p t mk li ch eb ib bb sv lbv v15 v16 a' → Sq k p lo ib bb eb L0 w1 c u col rest d s lb tb sv lbv tbv w' → gt a' 412 = .bool (!(isBrz (fb rest))) → K a' w') :
    g74.wp Tryd.prog (Exit.then K Q) a w := by
  obtain ⟨bp, bl, mi, ml, z, L, h1, h24, h25, h26, h19, m1, m2, m3, ho⟩ := hS.here.ex
  have hsm := h1.small
  obtain ⟨c16, f16⟩ := at_ h1.pb 16 h1.at16
  obtain ⟨c17, f17⟩ := at_ h1.pb 17 h1.at17
  obtain ⟨c18, f18⟩ := at_ h1.pb 18 h1.at18
  obtain ⟨c26, f26⟩ := at_ h1.pb 26 h26
  have j2 : (bl : Int) ≤ 541 := by omega
  have j0 : (0 : Int) ≤ (bp : Int) := by omega
  obtain ⟨y0, z0, hok0, hlay0⟩ := peek h1 [] rest (by simpa using hS.here.fro) (by simpa using hS.here.ch) (by simp) (by simp; omega)
  obtain ⟨x0, HX0⟩ : ∃ x0, Hid (fb rest = x0) := ⟨_, rfl⟩
  rw [HX0.out] at hok0 hlay0
  have hx0 := hlay0.hx
  have hj0 : (bp : Int) + 0 < (bl : Int) := by have := hlay0.hi; simp at this; omega
  simp only [List.length_nil, List.length_cons, Nat.zero_add, Nat.add_zero] at hlay0 hx0
  have hj0' : (bp : Int) < (bl : Int) := by omega
  have hcall : ∀ N, Calls Tryd.prog 123 #[.slice (some ⟨k.q, 0, none⟩) bl 1536, .int .i64 bp] (w.drewN N) fun e w' => e = .returned (.bool (isBrz x0)) ∧ w' = w.drewN N := fun N => brz_any k.q bp bl 1536 x0 y0 z0 (by omega) hok0 (w.drewN N) ⟨hlay0.hi, hlay0.hx, hlay0.hy, hlay0.hz⟩
  rw [HX0.out] at hK
  obtain ⟨b1, hb1⟩ : ∃ b, (isBrz x0) = b := ⟨_, rfl⟩
  rw [hb1] at hcall hK
  have HCALL := Lib.hid hcall
  have HS := Lib.hid hS
  have HKK := Lib.hid hK
  rw [lit464 a hF.size hF.defers, hF.s0, hF.s1, hF.s2, hF.s7, hF.s8, hF.s10, hF.s11, hF.s12, hF.s13, hF.s14, hF.s15, hF.s16]
  clear h1 h24 h25 h26 h19 ho hC hF hS hK hcall hok0 hlay0 hx0 hb1
  conv => arg 2; whnf
  try simp only [List.append]
  go_wp2_with fail
  go_quiet ((go_at_call 123; exact Calls.quiet_of_same (HCALL.out _)))
  go_wp2_with fail
  exact HKK.out _ _ ⟨rfl, rfl, rfl, rfl, rfl, rfl, rfl, rfl, rfl, rfl, rfl, rfl, rfl, rfl⟩ (HS.out.drewN _) rfl
set_option maxHeartbeats 32000000 in
set_option maxRecDepth 100000 in
theorem q66n {k : Kn} {p t mk lo ib bb eb : Nat} {s0 s1 s2 : Int} {L0 : List Value} {pn : Int} {w1 : World} (hC : Cq k p mk lo ib bb eb s0 s1 s2 L0 pn w1) {li : Bool} {ch : Int} {c u col d tb : Nat} {rest s : List Int} {sv lbv tbv : Value} {bl tk : Bool} {a : Act} {w : World} {K : Act → World → Prop} {Q : Exit → Act → World → Prop} (hF : Fq p t mk li ch eb ib bb sv lbv (.bool bl) (.bool tk) a) (hS : Sq k p lo ib bb eb L0 w1 c u col rest d s [] tb sv lbv tbv w)
    (hK : ∀ a', Fq p t mk li ch eb ib bb sv lbv (.bool bl) (.bool tk) a' → gt a' 377 = .bool (false) → K a' w) :
    g66.wp Tryd.prog (Exit.then K Q) a w := by
  have HKK := Lib.hid hK
  have hrow := hS.r13
  obtain ⟨q1, ⟨q2, q3⟩ | ⟨g, cap, cur, q2, q3, q4, q5, q6, q7⟩⟩ := id hrow
  · subst q2
    rw [lit464 a hF.size hF.defers, hF.s0, hF.s1, hF.s2, hF.s7, hF.s8, hF.s10, hF.s11, hF.s12, hF.s13, hF.s14, hF.s15, hF.s16]
    clear hC hF hS hK hrow q1
    cases li <;> cases bl <;> cases tk
    all_goals
      conv => arg 2; whnf
      go_wp2_with fail
      exact HKK.out _ ⟨rfl, rfl, rfl, rfl, rfl, rfl, rfl, rfl, rfl, rfl, rfl, rfl, rfl, rfl⟩ rfl
  · subst q2
    rw [lit464 a hF.size hF.defers, hF.s0, hF.s1, hF.s2, hF.s7, hF.s8, hF.s10, hF.s11, hF.s12, hF.s13, hF.s14, hF.s15, hF.s16]
    clear hC hF hS hK hrow q1 q4 q7
    cases li <;> cases bl <;> cases tk
    all_goals
      conv => arg 2; whnf
      go_wp2_with fail
      exact HKK.out _ ⟨rfl, rfl, rfl, rfl, rfl, rfl, rfl, rfl, rfl, rfl, rfl, rfl, rfl, rfl⟩ rfl
set_option maxHeartbeats 32000000 in
set_option maxRecDepth 100000 in
theorem q66y {k : Kn} {p t mk lo ib bb eb : Nat} {s0 s1 s2 : Int} {L0 : List Value} {pn : Int} {w1 : World} (hC : Cq k p mk lo ib bb eb s0 s1 s2 L0 pn w1) {li : Bool} {ch : Int} {c u col d tb : Nat} {rest s : List Int} {sv lbv tbv : Value} {bl tk : Bool} {a : Act} {w : World} {K : Act → World → Prop} {Q : Exit → Act → World → Prop} (hF : Fq p t mk li ch eb ib bb sv lbv (.bool bl) (.bool tk) a) (hS : Sq k p lo ib bb eb L0 w1 c u col rest d s [10] tb sv lbv tbv w)
    (hK : ∀ a', Fq p t mk li ch eb ib bb sv lbv (.bool bl) (.bool tk) a' → gt a' 377 = .bool (((!li && !bl) && !tk)) → K a' w) :
    g66.wp Tryd.prog (Exit.then K Q) a w := by
  have HKK := Lib.hid hK
  have hrow := hS.r13
  obtain ⟨q1, ⟨q2, q3⟩ | ⟨g, cap, cur, q2, q3, q4, q5, q6, q7⟩⟩ := id hrow
  · cases q3
  · have hc0 := hrow.cell (g := g) (by rw [q2]; rfl) 0 (by simp)
    have hc1 : w.cell? ⟨g, 0, none⟩ = some (.int .u8 10) := hc0
    subst q2
    rw [lit464 a hF.size hF.defers, hF.s0, hF.s1, hF.s2, hF.s7, hF.s8, hF.s10, hF.s11, hF.s12, hF.s13, hF.s14, hF.s15, hF.s16]
    clear hC hF hS hK hrow q1 q4 q7 hc0
    cases li <;> cases bl <;> cases tk
    all_goals
      conv => arg 2; whnf
      go_wp2_with fail
      exact HKK.out _ ⟨rfl, rfl, rfl, rfl, rfl, rfl, rfl, rfl, rfl, rfl, rfl, rfl, rfl, rfl⟩ rfl
set_option maxHeartbeats 32000000 in
set_option maxRecDepth 100000 in
theorem q67 {k : Kn} {p t mk lo ib bb eb : Nat} {s0 s1 s2 : Int} {L0 : List Value} {pn : Int} {w1 : World} (hC : Cq k p mk lo ib bb eb s0 s1 s2 L0 pn w1) {li : Bool} {ch : Int} {c u col d tb : Nat} {rest s lb : List Int} {sv lbv tbv v15 v16 : Value} {a : Act} {w : World} {K : Act → World → Prop} {Q : Exit → Act → World → Prop} (hF : Fq p t mk li ch eb ib bb sv lbv v15 v16 a) (hS : Sq k p lo ib bb eb L0 w1 c u col rest d s lb tb sv lbv tbv w)
    (hK : ∀ a', Fq p t mk li ch eb ib bb sv lbv v15 v16 a' → gt a' 380 = .bool (tb == 0) → K a' w) :
    g67.wp Tryd.prog (Exit.then K Q) a w := by
  obtain ⟨cv, fv⟩ := at_ hS.bv 0 (v := tbv) rfl
  obtain ⟨va, vc, hve⟩ := hS.r14.slice
  rw [nls_len] at hve
  obtain ⟨b0, hb0⟩ : ∃ b, (tb == 0) = b := ⟨_, rfl⟩
  have i0 : ((tb : Int) == 0) = b0 := by rw [← hb0, Bool.eq_iff_iff]; simp
  rw [hb0] at hK
  have HKK := Lib.hid hK
  rw [lit464 a hF.size hF.defers, hF.s0, hF.s1, hF.s2, hF.s7, hF.s8, hF.s10, hF.s11, hF.s12, hF.s13, hF.s14, hF.s15, hF.s16]
  clear hC hF hS hK hb0
  subst hve
  conv => arg 2; whnf
  go_wp2_with fail
  exact HKK.out _ ⟨rfl, rfl, rfl, rfl, rfl, rfl, rfl, rfl, rfl, rfl, rfl, rfl, rfl, rfl⟩ rfl
set_option maxHeartbeats 32000000 in
set_option maxRecDepth 100000 in
theorem q83 {p t mk ib bb eb : Nat} {li : Bool} {ch : Int} {sv lbv v15 v16 : Value} {a : Act} {w : World} {K : Act → World → Prop} {Q : Exit → Act → World → Prop} (hF : Fq p t mk li ch eb ib bb sv lbv v15 v16 a)
    (hK : ∀ a', Fq p t mk li ch eb ib bb sv lbv v15 v16 a' → gt a' 444 = .bool (ch != -1) → K a' w) :
    g83t.wp Tryd.prog (Exit.then K Q) a w := by
  obtain ⟨b0, hb0⟩ : ∃ b, (ch != -1) = b := ⟨_, rfl⟩
  rw [hb0] at hK
  have HKK := Lib.hid hK
  rw [lit464 a hF.size hF.defers, hF.s0, hF.s1, hF.s2, hF.s7, hF.s8, hF.s10, hF.s11, hF.s12, hF.s13, hF.s14, hF.s15, hF.s16]
  clear hF hK
  conv => arg 2; whnf
  go_wp2_with fail
  first
    | exact HKK.out _ ⟨rfl, rfl, rfl, rfl, rfl, rfl, rfl, rfl, rfl, rfl, rfl, rfl, rfl, rfl⟩ rfl
    | exact HKK.out _ ⟨rfl, rfl, rfl, rfl, rfl, rfl, rfl, rfl, rfl, rfl, rfl, rfl, rfl, rfl⟩ (congrArg Value.bool hb0)
set_option maxHeartbeats 32000000 in
set_option maxRecDepth 100000 in
theorem q85 {p t mk ib bb eb : Nat} {li : Bool} {ch : Int} {sv lbv v15 v16 : Value} {a : Act} {w : World} {K : Act → World → Prop} {Q : Exit → Act → World → Prop} (hF : Fq p t mk li ch eb ib bb sv lbv v15 v16 a)
    (hK : ∀ a', Fq p t mk li ch eb ib bb sv lbv v15 v16 a' → gt a' 449 = .bool (ch == 1) → K a' w) :
    g85t.wp Tryd.prog (Exit.then K Q) a w := by
  obtain ⟨b0, hb0⟩ : ∃ b, (ch == 1) = b := ⟨_, rfl⟩
  rw [hb0] at hK
  have HKK := Lib.hid hK
  rw [lit464 a hF.size hF.defers, hF.s0, hF.s1, hF.s2, hF.s7, hF.s8, hF.s10, hF.s11, hF.s12, hF.s13, hF.s14, hF.s15, hF.s16]
  clear hF hK
  conv => arg 2; whnf
  go_wp2_with fail
  first
    | exact HKK.out _ ⟨rfl, rfl, rfl, rfl, rfl, rfl, rfl, rfl, rfl, rfl, rfl, rfl, rfl, rfl⟩ rfl
    | exact HKK.out _ ⟨rfl, rfl, rfl, rfl, rfl, rfl, rfl, rfl, rfl, rfl, rfl, rfl, rfl, rfl⟩ (congrArg Value.bool hb0)
set_option maxHeartbeats 32000000 in
set_option maxRecDepth 100000 in
theorem q63 {p t mk ib bb eb : Nat} {li : Bool} {ch : Int} {sv lbv v15 v16 : Value} {a : Act} {w : World} {K : Act → World → Prop} {Q : Exit → Act → World → Prop} (hF : Fq p t mk li ch eb ib bb sv lbv v15 v16 a)
    (hK : ∀ a', Fq p t mk li ch eb ib bb sv lbv (.bool false) (.bool false) a' → K a' w) :
    g63.wp Tryd.prog (Exit.then K Q) a w := by
  have HKK := Lib.hid hK
  rw [lit464 a hF.size hF.defers, hF.s0, hF.s1, hF.s2, hF.s7, hF.s8, hF.s10, hF.s11, hF.s12, hF.s13, hF.s14, hF.s15, hF.s16]
  clear hF hK
  conv => arg 2; whnf
  go_wp2_with fail
  exact HKK.out _ ⟨rfl, rfl, rfl, rfl, rfl, rfl, rfl, rfl, rfl, rfl, rfl, rfl, rfl, rfl⟩
end Go.Proofs.YtocbbekciphjgaaDoor.Bs
/- QiC -/
/- The lines of a block scalar (yaml_parser_scan_block_scalar): what is done, the walks. Printed by genQi.py. -/
namespace Go.Proofs.YtocbbekciphjgaaDoor.Bs
open Go.RowKit Go.Proofs.YtocbbekciphjgaaDoor.Rdp Go.Proofs.YtocbbekciphjgaaDoor.Pa Go.Proofs.YtocbbekciphjgaaDoor.Sc Go.Proofs.YtocbbekciphjgaaDoor.Qd
set_option linter.unusedVariables false
set_option linter.unusedSimpArgs false
set_option maxHeartbeats 32000000 in
set_option maxRecDepth 100000 in
theorem q68 {k : Kn} {p t mk lo ib bb eb : Nat} {s0 s1 s2 : Int} {L0 : List Value} {pn : Int} {w1 : World} (hC : Cq k p mk lo ib bb eb s0 s1 s2 L0 pn w1) {li : Bool} {ch : Int} {c u col d tb : Nat} {rest s lb : List Int} {sv lbv tbv v15 v16 : Value} {a : Act} {w : World} {K : Act → World → Prop} {Q : Exit → Act → World → Prop} (hF : Fq p t mk li ch eb ib bb sv lbv v15 v16 a) (hS : Sq k p lo ib bb eb L0 w1 c u col rest d s lb tb sv lbv tbv w) (hb : s.length + lb.length + tb + 1 ≤ 4 * c)
    (hK : ∀ a' w' v', Fq p t mk li ch eb ib bb v' lbv v15 v16 a' → Sq k p lo ib bb eb L0 w1 c u col rest d (s ++ [32]) lb tb v' lbv tbv w' → K a' w') :
    g68.wp Tryd.prog (Exit.then K Q) a w := by
  have HS := Lib.hid hS
  have HB := Lib.hid hb
  have HKK := Lib.hid hK
  have HC := Lib.hid hC
  rw [lit464 a hF.size hF.defers, hF.s0, hF.s1, hF.s2, hF.s7, hF.s8, hF.s10, hF.s11, hF.s12, hF.s13, hF.s14, hF.s15, hF.s16]
  clear hC hF hS hK hb
  conv => arg 2; whnf
  go_wp2_with ((at_builtin; refine wpList_add rfl (.tmp 381) (.tmp 382) rfl lo _ s [32] rfl (World.ownsRow.alloc HS.out.r12 _) ⟨w.heap.size, 0, none⟩ 1 1 rfl rfl (fun j hj => by rw [Addr.add_lit]; obtain rfl : j = 0 := Nat.lt_one_iff.1 hj; simp [World.cell?_alloc_new]) (by have := HS.out.sz; have := HS.out.here.fro.2; have := HS.out.here.len; simp only [List.length_cons, List.length_nil]; omega) (Nat.le_trans (Nat.le_trans (Nat.le_of_eq HC.out.low.symm) HS.out.kp.size) (by simp)) ?_))
  intro v0 w0' hrow' hgrow hgr
  have HS0 := Lib.hid (HS.out.add12 HC.out.cb HC.out.low (below_alloc _ _) hrow' hgrow hgr (by have := HB.out; simp only [List.length_append, List.length_cons, List.length_nil]; omega))
  clear hrow' hgrow hgr HS
  go_wp2_with fail
  exact HKK.out _ _ _ ⟨rfl, rfl, rfl, rfl, rfl, rfl, rfl, rfl, rfl, rfl, rfl, rfl, rfl, rfl⟩ HS0.out
set_option maxHeartbeats 32000000 in
set_option maxRecDepth 100000 in
theorem q69 {k : Kn} {p t mk lo ib bb eb : Nat} {s0 s1 s2 : Int} {L0 : List Value} {pn : Int} {w1 : World} (hC : Cq k p mk lo ib bb eb s0 s1 s2 L0 pn w1) {li : Bool} {ch : Int} {c u col d tb : Nat} {rest s lb : List Int} {sv lbv tbv v15 v16 : Value} {a : Act} {w : World} {K : Act → World → Prop} {Q : Exit → Act → World → Prop} (hF : Fq p t mk li ch eb ib bb sv lbv v15 v16 a) (hS : Sq k p lo ib bb eb L0 w1 c u col rest d s lb tb sv lbv tbv w) (hb : s.length + lb.length + lb.length + tb ≤ 4 * c)
    (hK : ∀ a' w' v', Fq p t mk li ch eb ib bb v' lbv v15 v16 a' → Sq k p lo ib bb eb L0 w1 c u col rest d (s ++ lb) lb tb v' lbv tbv w' → K a' w') :
    g69.wp Tryd.prog (Exit.then K Q) a w := by
  have HS := Lib.hid hS
  have HB := Lib.hid hb
  have HKK := Lib.hid hK
  have HC := Lib.hid hC
  rw [lit464 a hF.size hF.defers, hF.s0, hF.s1, hF.s2, hF.s7, hF.s8, hF.s10, hF.s11, hF.s12, hF.s13, hF.s14, hF.s15, hF.s16]
  clear hC hF hS hK hb
  conv => arg 2; whnf
  go_wp2_with ((at_builtin; refine wpList_join rfl (.tmp 384) (.tmp 385) rfl lo lo _ _ s lb rfl HS.out.r12 rfl HS.out.r13 (by have := HB.out; have := HS.out.here.fro.2; have := HS.out.here.len; omega) (Nat.le_trans (Nat.le_of_eq HC.out.low.symm) HS.out.kp.size) ?_))
  intro v' w' hrow' hgrow hgr
  have HS2 := Lib.hid (HS.out.add12 HC.out.cb HC.out.low (Below.refl _ _) hrow' hgrow hgr (by have := HB.out; simp only [List.length_append]; omega))
  clear hrow' hgrow hgr HS
  go_wp2_with fail
  exact HKK.out _ _ _ ⟨rfl, rfl, rfl, rfl, rfl, rfl, rfl, rfl, rfl, rfl, rfl, rfl, rfl, rfl⟩ HS2.out
set_option maxHeartbeats 32000000 in
set_option maxRecDepth 100000 in
theorem q84 {k : Kn} {p t mk lo ib bb eb : Nat} {s0 s1 s2 : Int} {L0 : List Value} {pn : Int} {w1 : World} (hC : Cq k p mk lo ib bb eb s0 s1 s2 L0 pn w1) {li : Bool} {ch : Int} {c u col d tb : Nat} {rest s lb : List Int} {sv lbv tbv v15 v16 : Value} {a : Act} {w : World} {K : Act → World → Prop} {Q : Exit → Act → World → Prop} (hF : Fq p t mk li ch eb ib bb sv lbv v15 v16 a) (hS : Sq k p lo ib bb eb L0 w1 c u col rest d s lb tb sv lbv tbv w) (hb : s.length + lb.length + lb.length + tb ≤ 4 * c)
    (hK : ∀ a' w' v', Fq p t mk li ch eb ib bb v' lbv v15 v16 a' → Sq k p lo ib bb eb L0 w1 c u col rest d (s ++ lb) lb tb v' lbv tbv w' → K a' w') :
    g84.wp Tryd.prog (Exit.then K Q) a w := by
  have HS := Lib.hid hS
  have HB := Lib.hid hb
  have HKK := Lib.hid hK
  have HC := Lib.hid hC
  rw [lit464 a hF.size hF.defers, hF.s0, hF.s1, hF.s2, hF.s7, hF.s8, hF.s10, hF.s11, hF.s12, hF.s13, hF.s14, hF.s15, hF.s16]
  clear hC hF hS hK hb
  conv => arg 2; whnf
  go_wp2_with ((at_builtin; refine wpList_join rfl (.tmp 445) (.tmp 446) rfl lo lo _ _ s lb rfl HS.out.r12 rfl HS.out.r13 (by have := HB.out; have := HS.out.here.fro.2; have := HS.out.here.len; omega) (Nat.le_trans (Nat.le_of_eq HC.out.low.symm) HS.out.kp.size) ?_))
  intro v' w' hrow' hgrow hgr
  have HS2 := Lib.hid (HS.out.add12 HC.out.cb HC.out.low (Below.refl _ _) hrow' hgrow hgr (by have := HB.out; simp only [List.length_append]; omega))
  clear hrow' hgrow hgr HS
  go_wp2_with fail
  exact HKK.out _ _ _ ⟨rfl, rfl, rfl, rfl, rfl, rfl, rfl, rfl, rfl, rfl, rfl, rfl, rfl, rfl⟩ HS2.out
set_option maxHeartbeats 32000000 in
set_option maxRecDepth 100000 in
theorem q71 {k : Kn} {p t mk lo ib bb eb : Nat} {s0 s1 s2 : Int} {L0 : List Value} {pn : Int} {w1 : World} (hC : Cq k p mk lo ib bb eb s0 s1 s2 L0 pn w1) {li : Bool} {ch : Int} {c u col d tb : Nat} {rest s lb : List Int} {sv lbv tbv v15 v16 : Value} {a : Act} {w : World} {K : Act → World → Prop} {Q : Exit → Act → World → Prop} (hF : Fq p t mk li ch eb ib bb sv lbv v15 v16 a) (hS : Sq k p lo ib bb eb L0 w1 c u col rest d s lb tb sv lbv tbv w) (hb : s.length + lb.length + tb + tb ≤ 4 * c)
    (hK : ∀ a' w' v', Fq p t mk li ch eb ib bb v' lbv v15 v16 a' → Sq k p lo ib bb eb L0 w1 c u col rest d (s ++ nls tb) lb tb v' lbv tbv w' → K a' w') :
    g71.wp Tryd.prog (Exit.then K Q) a w := by
  obtain ⟨cv, fv⟩ := at_ hS.bv 0 (v := tbv) rfl
  obtain ⟨va, vc, hve⟩ := hS.r14.slice
  have hln := nls_len tb
  subst hve
  have HS := Lib.hid hS
  have HB := Lib.hid hb
  have HKK := Lib.hid hK
  have HC := Lib.hid hC
  have HLN := Lib.hid hln
  rw [lit464 a hF.size hF.defers, hF.s0, hF.s1, hF.s2, hF.s7, hF.s8, hF.s10, hF.s11, hF.s12, hF.s13, hF.s14, hF.s15, hF.s16]
  clear hC hF hS hK hb hln
  conv => arg 2; whnf
  go_wp2_with ((at_builtin; refine wpList_join rfl (.tmp 389) (.tmp 390) rfl lo lo _ _ s (nls tb) rfl HS.out.r12 rfl HS.out.r14 (by have := HB.out; have := HS.out.here.fro.2; have := HS.out.here.len; have := HLN.out; omega) (Nat.le_trans (Nat.le_of_eq HC.out.low.symm) HS.out.kp.size) ?_))
  intro v' w' hrow' hgrow hgr
  have HS2 := Lib.hid (HS.out.add12 HC.out.cb HC.out.low (Below.refl _ _) hrow' hgrow hgr (by have := HB.out; have := HLN.out; simp only [List.length_append]; omega))
  clear hrow' hgrow hgr HS
  go_wp2_with fail
  exact HKK.out _ _ _ ⟨rfl, rfl, rfl, rfl, rfl, rfl, rfl, rfl, rfl, rfl, rfl, rfl, rfl, rfl⟩ HS2.out
set_option maxHeartbeats 32000000 in
set_option maxRecDepth 100000 in
theorem q86 {k : Kn} {p t mk lo ib bb eb : Nat} {s0 s1 s2 : Int} {L0 : List Value} {pn : Int} {w1 : World} (hC : Cq k p mk lo ib bb eb s0 s1 s2 L0 pn w1) {li : Bool} {ch : Int} {c u col d tb : Nat} {rest s lb : List Int} {sv lbv tbv v15 v16 : Value} {a : Act} {w : World} {K : Act → World → Prop} {Q : Exit → Act → World → Prop} (hF : Fq p t mk li ch eb ib bb sv lbv v15 v16 a) (hS : Sq k p lo ib bb eb L0 w1 c u col rest d s lb tb sv lbv tbv w) (hb : s.length + lb.length + tb + tb ≤ 4 * c)
    (hK : ∀ a' w' v', Fq p t mk li ch eb ib bb v' lbv v15 v16 a' → Sq k p lo ib bb eb L0 w1 c u col rest d (s ++ nls tb) lb tb v' lbv tbv w' → K a' w') :
    g86.wp Tryd.prog (Exit.then K Q) a w := by
  obtain ⟨cv, fv⟩ := at_ hS.bv 0 (v := tbv) rfl
  obtain ⟨va, vc, hve⟩ := hS.r14.slice
  have hln := nls_len tb
  subst hve
  have HS := Lib.hid hS
  have HB := Lib.hid hb
  have HKK := Lib.hid hK
  have HC := Lib.hid hC
  have HLN := Lib.hid hln
  rw [lit464 a hF.size hF.defers, hF.s0, hF.s1, hF.s2, hF.s7, hF.s8, hF.s10, hF.s11, hF.s12, hF.s13, hF.s14, hF.s15, hF.s16]
  clear hC hF hS hK hb hln
  conv => arg 2; whnf
  go_wp2_with ((at_builtin; refine wpList_join rfl (.tmp 450) (.tmp 451) rfl lo lo _ _ s (nls tb) rfl HS.out.r12 rfl HS.out.r14 (by have := HB.out; have := HS.out.here.fro.2; have := HS.out.here.len; have := HLN.out; omega) (Nat.le_trans (Nat.le_of_eq HC.out.low.symm) HS.out.kp.size) ?_))
  intro v' w' hrow' hgrow hgr
  have HS2 := Lib.hid (HS.out.add12 HC.out.cb HC.out.low (Below.refl _ _) hrow' hgrow hgr (by have := HB.out; have := HLN.out; simp only [List.length_append]; omega))
  clear hrow' hgrow hgr HS
  go_wp2_with fail
  exact HKK.out _ _ _ ⟨rfl, rfl, rfl, rfl, rfl, rfl, rfl, rfl, rfl, rfl, rfl, rfl, rfl, rfl⟩ HS2.out
set_option maxHeartbeats 32000000 in
set_option maxRecDepth 100000 in
theorem q70 {k : Kn} {p t mk lo ib bb eb : Nat} {s0 s1 s2 : Int} {L0 : List Value} {pn : Int} {w1 : World} (hC : Cq k p mk lo ib bb eb s0 s1 s2 L0 pn w1) {li : Bool} {ch : Int} {c u col d tb : Nat} {rest s lb : List Int} {sv lbv tbv v15 v16 : Value} {a : Act} {w : World} {K : Act → World → Prop} {Q : Exit → Act → World → Prop} (hF : Fq p t mk li ch eb ib bb sv lbv v15 v16 a) (hS : Sq k p lo ib bb eb L0 w1 c u col rest d s lb tb sv lbv tbv w)
    (hK : ∀ a' v', Fq p t mk li ch eb ib bb sv v' v15 v16 a' → Sq k p lo ib bb eb L0 w1 c u col rest d s [] tb sv v' tbv w → K a' w) :
    g70.wp Tryd.prog (Exit.then K Q) a w := by
  have HS := Lib.hid hS
  have HKK := Lib.hid hK
  have hrow := hS.r13
  obtain ⟨q1, ⟨q2, q3⟩ | ⟨g, cap, cur, q2, q3, q4, q5, q6, q7⟩⟩ := id hrow
  · subst q2
    rw [lit464 a hF.size hF.defers, hF.s0, hF.s1, hF.s2, hF.s7, hF.s8, hF.s10, hF.s11, hF.s12, hF.s13, hF.s14, hF.s15, hF.s16]
    clear hC hF hS hK hrow q1
    conv => arg 2; whnf
    go_wp2_with fail
    exact HKK.out _ _ ⟨rfl, rfl, rfl, rfl, rfl, rfl, rfl, rfl, rfl, rfl, rfl, rfl, rfl, rfl⟩ (HS.out.cut13 (Row.nil _ _) (fun g hg => by cases hg))
  · subst q2
    have q9 : (0 : Int) ≤ (cap : Int) := by omega
    rw [lit464 a hF.size hF.defers, hF.s0, hF.s1, hF.s2, hF.s7, hF.s8, hF.s10, hF.s11, hF.s12, hF.s13, hF.s14, hF.s15, hF.s16]
    clear hC hF hS hK hrow q1 q4 q7
    conv => arg 2; whnf
    go_wp2_with fail
    exact HKK.out _ _ ⟨rfl, rfl, rfl, rfl, rfl, rfl, rfl, rfl, rfl, rfl, rfl, rfl, rfl, rfl⟩ (HS.out.cut13 HS.out.r13.cut (fun g hg => hg))
set_option maxHeartbeats 32000000 in
set_option maxRecDepth 100000 in
theorem q72 {k : Kn} {p t mk lo ib bb eb : Nat} {s0 s1 s2 : Int} {L0 : List Value} {pn : Int} {w1 : World} (hC : Cq k p mk lo ib bb eb s0 s1 s2 L0 pn w1) {li : Bool} {ch : Int} {c u col d tb : Nat} {rest s lb : List Int} {sv lbv tbv v15 v16 : Value} {a : Act} {w : World} {K : Act → World → Prop} {Q : Exit → Act → World → Prop} (hF : Fq p t mk li ch eb ib bb sv lbv v15 v16 a) (hS : Sq k p lo ib bb eb L0 w1 c u col rest d s lb tb sv lbv tbv w)
    (hK : ∀ a' w' v', Fq p t mk li ch eb ib bb sv lbv v15 v16 a' → Sq k p lo ib bb eb L0 w1 c u col rest d s lb 0 sv lbv v' w' → K a' w') :
    g72.wp Tryd.prog (Exit.then K Q) a w := by
  obtain ⟨cv, fv⟩ := at_ hS.bv 0 (v := tbv) rfl
  have HS := Lib.hid hS
  have HKK := Lib.hid hK
  have HC := Lib.hid hC
  have hrow := hS.r14
  obtain ⟨q1, ⟨q2, q3⟩ | ⟨g, cap, cur, q2, q3, q4, q5, q6, q7⟩⟩ := id hrow
  · subst q2
    rw [lit464 a hF.size hF.defers, hF.s0, hF.s1, hF.s2, hF.s7, hF.s8, hF.s10, hF.s11, hF.s12, hF.s13, hF.s14, hF.s15, hF.s16]
    clear hC hF hS hK hrow q1
    conv => arg 2; whnf
    go_wp2_with fail
    exact HKK.out _ _ _ ⟨rfl, rfl, rfl, rfl, rfl, rfl, rfl, rfl, rfl, rfl, rfl, rfl, rfl, rfl⟩ (HS.out.cut14 HC.out.cb (Row.nil _ _) (fun g hg => by cases hg))
  · subst q2
    have q9 : (0 : Int) ≤ (cap : Int) := by omega
    rw [lit464 a hF.size hF.defers, hF.s0, hF.s1, hF.s2, hF.s7, hF.s8, hF.s10, hF.s11, hF.s12, hF.s13, hF.s14, hF.s15, hF.s16]
    clear hC hF hS hK hrow q1 q4 q7
    conv => arg 2; whnf
    go_wp2_with fail
    exact HKK.out _ _ _ ⟨rfl, rfl, rfl, rfl, rfl, rfl, rfl, rfl, rfl, rfl, rfl, rfl, rfl, rfl⟩ (HS.out.cut14 HC.out.cb HS.out.r14.cut (fun g hg => hg))
set_option maxHeartbeats 32000000 in
set_option maxRecDepth 100000 in
theorem q75 {k : Kn} {p t mk lo ib bb eb : Nat} {s0 s1 s2 : Int} {L0 : List Value} {pn : Int} {w1 : World} (hC : Cq k p mk lo ib bb eb s0 s1 s2 L0 pn w1) {li : Bool} {ch : Int} {c u col d tb : Nat} {r s lb : List Int} {sv lbv tbv v15 v16 : Value} {a : Act} {w : World} {K : Act → World → Prop} {Q : Exit → Act → World → Prop} (hF : Fq p t mk li ch eb ib bb sv lbv v15 v16 a) {x : Int} (hS : Sq k p lo ib bb eb L0 w1 c (u + 1) col (x :: r) d s lb tb sv lbv tbv w)
    (hK : ∀ a' w' v', Fq p t mk li ch eb ib bb v' lbv v15 v16 a' → Sq k p lo ib bb eb L0 w1 (c + (u8 x).length) u (col + 1) r d (s ++ u8 x) lb tb v' lbv tbv w' → K a' w') :
    g75.wp Tryd.prog (Exit.then K Q) a w := by
  have hcl := hS.here.fro.2
  have hlen := hS.here.len
  have hsz := hS.sz
  have hsk := Lib.hid (hS.here.read hS.r12 (by omega) (by have := hS.kp.size; have := hC.low; omega) hC.cb.far)
  have HS := Lib.hid hS
  have HKK := Lib.hid hK
  have HC := Lib.hid hC
  rw [lit464 a hF.size hF.defers, hF.s0, hF.s1, hF.s2, hF.s7, hF.s8, hF.s10, hF.s11, hF.s12, hF.s13, hF.s14, hF.s15, hF.s16]
  clear hC hF hS hK
  conv => arg 2; whnf
  go_wp2_with fail
  refine hsk.out.mono ?_
  rintro e w' ⟨v', rfl, hat, hgv⟩
  have hpos := u8_pos x
  have HST := Lib.hid (HS.out.gave12 HC.out.cb HC.out.low hgv hat (by simp only [List.length_append]; omega))
  clear hat hgv hsk HS
  go_wp2_with fail
  exact HKK.out _ _ v' ⟨rfl, rfl, rfl, rfl, rfl, rfl, rfl, rfl, rfl, rfl, rfl, rfl, rfl, rfl⟩ HST.out
set_option maxHeartbeats 32000000 in
set_option maxRecDepth 100000 in
theorem q80 {k : Kn} {p t mk lo ib bb eb : Nat} {s0 s1 s2 : Int} {L0 : List Value} {pn : Int} {w1 : World} (hC : Cq k p mk lo ib bb eb s0 s1 s2 L0 pn w1) {li : Bool} {ch : Int} {c u col d tb : Nat} {r s : List Int} {sv lbv tbv v15 v16 : Value} {a : Act} {w : World} {K : Act → World → Prop} {Q : Exit → Act → World → Prop} (hF : Fq p t mk li ch eb ib bb sv lbv v15 v16 a) (hS : Sq k p lo ib bb eb L0 w1 c (u + 1) col (10 :: r) d s [] tb sv lbv tbv w)
    (hK : ∀ a' w' v', Fq p t mk li ch eb ib bb sv v' v15 v16 a' → Sq k p lo ib bb eb L0 w1 (c + 1) u 0 r d s [10] tb sv v' tbv w' → K a' w') :
    g80.wp Tryd.prog (Exit.then K Q) a w := by
  have hsz := hS.sz
  have hsk := Lib.hid (hS.here.read_line hS.r13 (by simp) (by have := hS.kp.size; have := hC.low; omega) hC.cb.far)
  have HS := Lib.hid hS
  have HKK := Lib.hid hK
  have HC := Lib.hid hC
  rw [lit464 a hF.size hF.defers, hF.s0, hF.s1, hF.s2, hF.s7, hF.s8, hF.s10, hF.s11, hF.s12, hF.s13, hF.s14, hF.s15, hF.s16]
  clear hC hF hS hK
  conv => arg 2; whnf
  go_wp2_with fail
  refine hsk.out.mono ?_
  rintro e w' ⟨v', rfl, hat, hgv⟩
  have HST := Lib.hid (HS.out.gave13 HC.out.cb HC.out.low hgv hat (by simp only [List.length_append, List.length_cons, List.length_nil] at hsz ⊢; omega))
  clear hat hgv hsk HS
  go_wp2_with fail
  exact HKK.out _ _ v' ⟨rfl, rfl, rfl, rfl, rfl, rfl, rfl, rfl, rfl, rfl, rfl, rfl, rfl, rfl⟩ HST.out
set_option maxHeartbeats 32000000 in
set_option maxRecDepth 100000 in
theorem q59 {k : Kn} {p t mk lo ib bb eb : Nat} {s0 s1 s2 : Int} {L0 : List Value} {pn : Int} {w1 : World} (hC : Cq k p mk lo ib bb eb s0 s1 s2 L0 pn w1) {li : Bool} {ch : Int} {c u col d tb : Nat} {rest s lb : List Int} {sv lbv tbv v15 v16 : Value} {a : Act} {w : World} {K : Act → World → Prop} {Q : Exit → Act → World → Prop} (hF : Fq p t mk li ch eb ib bb sv lbv v15 v16 a) {n m k' : Nat} {q : List Int} (hS : Sq k p lo ib bb eb L0 w1 c u col rest d s lb tb sv lbv tbv w) (hB : Brk d 0 col rest n m k' q)
    (hK : ∀ a' w' c' u' v', c ≤ c' → 1 ≤ u' → Fq p t mk li ch eb ib bb sv lbv v15 v16 a' → Sq k p lo ib bb eb L0 w1 c' u' k' q (ind d m pn) s lb (tb + n) sv lbv v' w' → K a' w') :
    g59.wp Tryd.prog (Exit.then K Q) a w := by
  have hmk := hC.mark.kp hS.kp hC.own
  obtain ⟨q0, _⟩ := at_ hmk 0 (v := .int .i64 s0) rfl
  obtain ⟨q1, _⟩ := at_ hmk 1 (v := .int .i64 s1) rfl
  obtain ⟨q2, _⟩ := at_ hmk 2 (v := .int .i64 s2) rfl
  have hcm := Lib.hid (brks_any hC.cb s0 s1 s2 (hS.sb hC.low) hB)
  have HS := Lib.hid hS
  have HKK := Lib.hid hK
  have HC := Lib.hid hC
  have HBU := Lib.hid (brk_us hB)
  rw [lit464 a hF.size hF.defers, hF.s0, hF.s1, hF.s2, hF.s7, hF.s8, hF.s10, hF.s11, hF.s12, hF.s13, hF.s14, hF.s15, hF.s16]
  clear hC hF hS hK hmk hB
  conv => arg 2; whnf
  go_wp2_with fail
  refine hcm.out.mono ?_
  rintro e w' ⟨rfl, c', u', v', hc', hu', hsb⟩
  have HST := Lib.hid (HS.out.brks HC.out.cb HC.out.low hsb HBU.out)
  clear hsb hcm HS q0 q1 q2
  go_wp2_with fail
  exact HKK.out _ _ c' u' v' hc' hu' ⟨rfl, rfl, rfl, rfl, rfl, rfl, rfl, rfl, rfl, rfl, rfl, rfl, rfl, rfl⟩ HST.out
set_option maxHeartbeats 32000000 in
set_option maxRecDepth 100000 in
theorem q81 {k : Kn} {p t mk lo ib bb eb : Nat} {s0 s1 s2 : Int} {L0 : List Value} {pn : Int} {w1 : World} (hC : Cq k p mk lo ib bb eb s0 s1 s2 L0 pn w1) {li : Bool} {ch : Int} {c u col d tb : Nat} {rest s lb : List Int} {sv lbv tbv v15 v16 : Value} {a : Act} {w : World} {K : Act → World → Prop} {Q : Exit → Act → World → Prop} (hF : Fq p t mk li ch eb ib bb sv lbv v15 v16 a) {n m k' : Nat} {q : List Int} (hS : Sq k p lo ib bb eb L0 w1 c u col rest d s lb tb sv lbv tbv w) (hB : Brk d 0 col rest n m k' q)
    (hK : ∀ a' w' c' u' v', c ≤ c' → 1 ≤ u' → Fq p t mk li ch eb ib bb sv lbv v15 v16 a' → Sq k p lo ib bb eb L0 w1 c' u' k' q (ind d m pn) s lb (tb + n) sv lbv v' w' → K a' w') :
    g81.wp Tryd.prog (Exit.then K Q) a w := by
  have hmk := hC.mark.kp hS.kp hC.own
  obtain ⟨q0, _⟩ := at_ hmk 0 (v := .int .i64 s0) rfl
  obtain ⟨q1, _⟩ := at_ hmk 1 (v := .int .i64 s1) rfl
  obtain ⟨q2, _⟩ := at_ hmk 2 (v := .int .i64 s2) rfl
  have hcm := Lib.hid (brks_any hC.cb s0 s1 s2 (hS.sb hC.low) hB)
  have HS := Lib.hid hS
  have HKK := Lib.hid hK
  have HC := Lib.hid hC
  have HBU := Lib.hid (brk_us hB)
  rw [lit464 a hF.size hF.defers, hF.s0, hF.s1, hF.s2, hF.s7, hF.s8, hF.s10, hF.s11, hF.s12, hF.s13, hF.s14, hF.s15, hF.s16]
  clear hC hF hS hK hmk hB
  conv => arg 2; whnf
  go_wp2_with fail
  refine hcm.out.mono ?_
  rintro e w' ⟨rfl, c', u', v', hc', hu', hsb⟩
  have HST := Lib.hid (HS.out.brks HC.out.cb HC.out.low hsb HBU.out)
  clear hsb hcm HS q0 q1 q2
  go_wp2_with fail
  exact HKK.out _ _ c' u' v' hc' hu' ⟨rfl, rfl, rfl, rfl, rfl, rfl, rfl, rfl, rfl, rfl, rfl, rfl, rfl, rfl⟩ HST.out
end Go.Proofs.YtocbbekciphjgaaDoor.Bs
