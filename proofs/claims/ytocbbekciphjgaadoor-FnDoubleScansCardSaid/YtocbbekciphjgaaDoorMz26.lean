/- QdP: parts of the proof, one behind another. -/
import Derived.Test.YtocbbekciphjgaaDoorMz22
/- QdP -/
/- White and breaks (yaml_parser_scan_flow_scalar): the walks. Printed by genQdJ.py. -/
namespace Go.Proofs.YtocbbekciphjgaaDoor.Qd
open Go.RowKit Go.Proofs.YtocbbekciphjgaaDoor.Rdp Go.Proofs.YtocbbekciphjgaaDoor.Pa Go.Proofs.YtocbbekciphjgaaDoor.Sc
set_option linter.unusedVariables false
set_option linter.unusedSimpArgs false
set_option maxHeartbeats 32000000 in
set_option maxRecDepth 100000 in
theorem sDh {k : Kn} {p t mk lo : Nat} {s0 s1 s2 : Int} {L0 : List Value} {w1 : World} (hC : Cx k p mk lo s0 s1 s2 L0 w1) {sg : Bool} {c u col : Nat} {rest s lb tb ws : List Int} {sv lbv tbv wsv : Value} {lbr : Bool} {a : Act} {w : World} {K : Act → World → Prop} {Q : Exit → Act → World → Prop} (hF : Fm sg p t mk sv lbv tbv wsv lbr a) (hS : St k p lo L0 w1 c u col rest s lb tb ws sv lbv tbv wsv w) (hu1 : 1 ≤ u)
    (hK : (isBlank (fb rest) || fb rest == 10) = true → ∀ a' w', Fm sg p t mk sv lbv tbv wsv lbr a' → St k p lo L0 w1 c u col rest s lb tb ws sv lbv tbv wsv w' → K a' w')
    (hX : (isBlank (fb rest) || fb rest == 10) = false → ∀ a' w', Fm sg p t mk sv lbv tbv wsv lbr a' → St k p lo L0 w1 c u col rest s lb tb ws sv lbv tbv wsv w' → Q (.exit 9) a' w') :
    cDh.wp Tryd.prog (Exit.then K Q) a w := by
  obtain ⟨bp, bl, mi, ml, z, L, h1, h24, h25, h26, h19, m1, m2, m3, ho⟩ := hS.here.ex
  have hsm := h1.small
  obtain ⟨c16, f16⟩ := at_ h1.pb 16 h1.at16
  obtain ⟨c17, f17⟩ := at_ h1.pb 17 h1.at17
  obtain ⟨c18, f18⟩ := at_ h1.pb 18 h1.at18
  obtain ⟨c26, f26⟩ := at_ h1.pb 26 h26
  have j2 : (bl : Int) ≤ 541 := by omega
  have j0 : (0 : Int) ≤ (bp : Int) := by omega
  obtain ⟨y0, z0, hok0, hlay0⟩ := peek h1 [] rest (by simpa using hS.here.fro) (by simpa using hS.here.ch) (by simp) (by simp; omega)
  obtain ⟨x0, HX0⟩ : ∃ x0, Hid (fb rest = x0) := ⟨_, rfl⟩
  rw [HX0.out] at hok0 hlay0
  have hx0 := hlay0.hx
  have hj0 : (bp : Int) + 0 < (bl : Int) := by have := hlay0.hi; simp at this; omega
  simp only [List.length_nil, List.length_cons, Nat.zero_add, Nat.add_zero] at hlay0 hx0
  have hj0' : (bp : Int) < (bl : Int) := by omega
  have hcall : ∀ N, Calls Tryd.prog 102 #[.slice (some ⟨k.q, 0, none⟩) bl 1536, .int .i64 bp] (w.drewN N) fun e w' => e = .returned (.bool (isBlank x0)) ∧ w' = w.drewN N := fun N => blank_any k.q bp bl 1536 x0 (w.drewN N) (by have := hlay0.hi; omega) (by omega) hx0
  have hcall2 : ∀ N, Calls Tryd.prog 115 #[.slice (some ⟨k.q, 0, none⟩) bl 1536, .int .i64 bp] (w.drewN N) fun e w' => e = .returned (.bool (x0 == 10)) ∧ w' = w.drewN N := fun N => brk_any k.q bp bl 1536 x0 y0 z0 (by omega) hok0 (w.drewN N) ⟨hlay0.hi, hlay0.hx, hlay0.hy, hlay0.hz⟩
  rw [HX0.out] at hK hX
  obtain ⟨b1, hb1⟩ : ∃ b, isBlank x0 = b := ⟨_, rfl⟩
  obtain ⟨b2, hb2⟩ : ∃ b, (x0 == 10) = b := ⟨_, rfl⟩
  rw [hb1] at hcall hK hX
  rw [hb2] at hcall2 hK hX
  have HCALL := Lib.hid hcall
  have HCALL2 := Lib.hid hcall2
  have HS := Lib.hid hS
  have HKK := Lib.hid hK
  have HXX := Lib.hid hX
  rw [lit717 a hF.size hF.defers, hF.s0, hF.s1, hF.s2, hF.s7, hF.s8, hF.s9, hF.s10, hF.s11, hF.s12]
  clear h1 h24 h25 h26 h19 ho hC hF hS hK hX hcall hcall2 hok0 hlay0 hx0 hb1 hb2
  conv => arg 2; whnf
  try simp only [List.append]
  cases b1 <;> cases b2
  all_goals
    go_wp2_with fail
    go_quiet (first | (go_at_call 102; exact Calls.quiet_of_same (HCALL.out _)) | (go_at_call 115; exact quiet_add_same (HCALL2.out _)) | (go_at_call 115; exact Calls.quiet_of_same (HCALL2.out _)))
    go_wp2_with fail
    first | exact HXX.out rfl _ _ ⟨rfl, rfl, rfl, rfl, rfl, rfl, rfl, rfl, rfl, rfl, rfl⟩ (HS.out.drewN _) | exact HKK.out rfl _ _ ⟨rfl, rfl, rfl, rfl, rfl, rfl, rfl, rfl, rfl, rfl, rfl⟩ (HS.out.drewN _)
set_option maxHeartbeats 32000000 in
set_option maxRecDepth 100000 in
theorem s120 {k : Kn} {p t mk lo : Nat} {s0 s1 s2 : Int} {L0 : List Value} {w1 : World} (hC : Cx k p mk lo s0 s1 s2 L0 w1) {sg : Bool} {c u col : Nat} {rest s lb tb ws : List Int} {sv lbv tbv wsv : Value} {lbr : Bool} {a : Act} {w : World} {K : Act → World → Prop} {Q : Exit → Act → World → Prop} (hF : Fm sg p t mk sv lbv tbv wsv lbr a) (hS : St k p lo L0 w1 c u col rest s lb tb ws sv lbv tbv wsv w) (hu1 : 1 ≤ u)
    (hK : ∀ a' w', Fm sg p t mk sv lbv tbv wsv lbr a' → St k p lo L0 w1 c u col rest s lb tb ws sv lbv tbv wsv w' → gt a' 628 = .bool (isBlank (fb rest)) → K a' w') :
    c120.wp Tryd.prog (Exit.then K Q) a w := by
  obtain ⟨bp, bl, mi, ml, z, L, h1, h24, h25, h26, h19, m1, m2, m3, ho⟩ := hS.here.ex
  have hsm := h1.small
  obtain ⟨c16, f16⟩ := at_ h1.pb 16 h1.at16
  obtain ⟨c17, f17⟩ := at_ h1.pb 17 h1.at17
  obtain ⟨c18, f18⟩ := at_ h1.pb 18 h1.at18
  obtain ⟨c26, f26⟩ := at_ h1.pb 26 h26
  have j2 : (bl : Int) ≤ 541 := by omega
  have j0 : (0 : Int) ≤ (bp : Int) := by omega
  obtain ⟨y0, z0, hok0, hlay0⟩ := peek h1 [] rest (by simpa using hS.here.fro) (by simpa using hS.here.ch) (by simp) (by simp; omega)
  obtain ⟨x0, HX0⟩ : ∃ x0, Hid (fb rest = x0) := ⟨_, rfl⟩
  rw [HX0.out] at hok0 hlay0
  have hx0 := hlay0.hx
  have hj0 : (bp : Int) + 0 < (bl : Int) := by have := hlay0.hi; simp at this; omega
  simp only [List.length_nil, List.length_cons, Nat.zero_add, Nat.add_zero] at hlay0 hx0
  have hj0' : (bp : Int) < (bl : Int) := by omega
  have hcall : ∀ N, Calls Tryd.prog 102 #[.slice (some ⟨k.q, 0, none⟩) bl 1536, .int .i64 bp] (w.drewN N) fun e w' => e = .returned (.bool (isBlank x0)) ∧ w' = w.drewN N := fun N => blank_any k.q bp bl 1536 x0 (w.drewN N) (by have := hlay0.hi; omega) (by omega) hx0
  rw [HX0.out] at hK
  obtain ⟨b1, hb1⟩ : ∃ b, isBlank x0 = b := ⟨_, rfl⟩
  rw [hb1] at hcall hK
  have HCALL := Lib.hid hcall
  have HS := Lib.hid hS
  have HKK := Lib.hid hK
  rw [lit717 a hF.size hF.defers, hF.s0, hF.s1, hF.s2, hF.s7, hF.s8, hF.s9, hF.s10, hF.s11, hF.s12]
  clear h1 h24 h25 h26 h19 ho hC hF hS hK hcall hok0 hlay0 hx0 hb1
  conv => arg 2; whnf
  try simp only [List.append]
  go_wp2_with fail
  go_quiet ((go_at_call 102; exact Calls.quiet_of_same (HCALL.out _)))
  go_wp2_with fail
  exact HKK.out _ _ ⟨rfl, rfl, rfl, rfl, rfl, rfl, rfl, rfl, rfl, rfl, rfl⟩ (HS.out.drewN _) rfl
set_option maxHeartbeats 32000000 in
set_option maxRecDepth 100000 in
theorem s121 {k : Kn} {p t mk lo : Nat} {s0 s1 s2 : Int} {L0 : List Value} {w1 : World} (hC : Cx k p mk lo s0 s1 s2 L0 w1) {sg : Bool} {sv lbv tbv wsv : Value} {lbr : Bool} {a : Act} {w : World} {K : Act → World → Prop} {Q : Exit → Act → World → Prop} (hF : Fm sg p t mk sv lbv tbv wsv lbr a)
    (hK : ∀ a', Fm sg p t mk sv lbv tbv wsv lbr a' → gt a' 630 = .bool (!lbr) → K a' w) :
    c121.wp Tryd.prog (Exit.then K Q) a w := by
  have HKK := Lib.hid hK
  rw [lit717 a hF.size hF.defers, hF.s0, hF.s1, hF.s2, hF.s7, hF.s8, hF.s9, hF.s10, hF.s11, hF.s12]
  clear hC hF hK
  conv => arg 2; whnf
  go_wp2_with fail
  exact HKK.out _ ⟨rfl, rfl, rfl, rfl, rfl, rfl, rfl, rfl, rfl, rfl, rfl⟩ rfl
set_option maxHeartbeats 32000000 in
set_option maxRecDepth 100000 in
theorem s122 {k : Kn} {p t mk lo : Nat} {s0 s1 s2 : Int} {L0 : List Value} {w1 : World} (hC : Cx k p mk lo s0 s1 s2 L0 w1) {sg : Bool} {c u col : Nat} {r s lb tb ws : List Int} {sv lbv tbv wsv : Value} {lbr : Bool} {a : Act} {w : World} {K : Act → World → Prop} {Q : Exit → Act → World → Prop} (hF : Fm sg p t mk sv lbv tbv wsv lbr a) {x : Int} (hS : St k p lo L0 w1 c (u + 1) col (x :: r) s lb tb ws sv lbv tbv wsv w)
    (hK : ∀ a' w' v', Fm sg p t mk sv lbv tbv v' lbr a' → St k p lo L0 w1 (c + (u8 x).length) u (col + 1) r s lb tb (ws ++ u8 x) sv lbv tbv v' w' → K a' w') :
    c122.wp Tryd.prog (Exit.then K Q) a w := by
  have hlo : lo ≤ w.heap.size := by have := hS.kp.size; have := hC.low; omega
  have hcl := hS.here.fro.2
  have hlen := hS.here.len
  have hsz := hS.sz
  have hsk := Lib.hid (hS.here.read hS.r11 (by omega) hlo hC.far)
  have HS := Lib.hid hS
  have HKK := Lib.hid hK
  have HFAR := Lib.hid hC.far
  have HLOW := Lib.hid hC.low
  rw [lit717 a hF.size hF.defers, hF.s0, hF.s1, hF.s2, hF.s7, hF.s8, hF.s9, hF.s10, hF.s11, hF.s12]
  clear hC hF hS hK
  conv => arg 2; whnf
  go_wp2_with fail
  refine hsk.out.mono ?_
  rintro e w' ⟨v', rfl, hat, hgv⟩
  have hpos := u8_pos x
  have HST := Lib.hid (HS.out.gave11 HFAR.out HLOW.out hgv hat (by simp only [List.length_append]; omega))
  clear hat hgv hsk HS
  go_wp2_with fail
  exact HKK.out _ _ v' ⟨rfl, rfl, rfl, rfl, rfl, rfl, rfl, rfl, rfl, rfl, rfl⟩ HST.out
set_option maxHeartbeats 32000000 in
set_option maxRecDepth 100000 in
theorem s123 {k : Kn} {p t mk lo : Nat} {s0 s1 s2 : Int} {L0 : List Value} {w1 : World} (hC : Cx k p mk lo s0 s1 s2 L0 w1) {sg : Bool} {c u col : Nat} {r s lb tb ws : List Int} {sv lbv tbv wsv : Value} {lbr : Bool} {a : Act} {w : World} {K : Act → World → Prop} {Q : Exit → Act → World → Prop} (hF : Fm sg p t mk sv lbv tbv wsv lbr a) {x : Int} (hS : St k p lo L0 w1 c (u + 1) col (x :: r) s lb tb ws sv lbv tbv wsv w)
    (hK : ∀ a' w', Fm sg p t mk sv lbv tbv wsv lbr a' → St k p lo L0 w1 (c + (u8 x).length) u (col + 1) r s lb tb ws sv lbv tbv wsv w' → K a' w') :
    c123.wp Tryd.prog (Exit.then K Q) a w := by
  have hsk := Lib.hid hS.here.skip
  have HS := Lib.hid hS
  have HKK := Lib.hid hK
  have HFAR := Lib.hid hC.far
  rw [lit717 a hF.size hF.defers, hF.s0, hF.s1, hF.s2, hF.s7, hF.s8, hF.s9, hF.s10, hF.s11, hF.s12]
  clear hC hF hS hK
  conv => arg 2; whnf
  go_wp2_with fail
  refine hsk.out.mono ?_
  rintro e w' ⟨rfl, hat, hkp, hsz⟩
  have HST := Lib.hid (HS.out.turn HFAR.out hkp hat (by omega))
  clear hat hkp hsz hsk HS
  go_wp2_with fail
  exact HKK.out _ _ ⟨rfl, rfl, rfl, rfl, rfl, rfl, rfl, rfl, rfl, rfl, rfl⟩ HST.out
set_option maxHeartbeats 32000000 in
set_option maxRecDepth 100000 in
theorem u124 {k : Kn} {p t mk lo : Nat} {s0 s1 s2 : Int} {L0 : List Value} {w1 : World} (hC : Cx k p mk lo s0 s1 s2 L0 w1) {sg : Bool} {c u col : Nat} {rest s lb tb ws : List Int} {sv lbv tbv wsv : Value} {lbr : Bool} {a : Act} {w : World} {K : Act → World → Prop} {Q : Exit → Act → World → Prop} (hF : Fm sg p t mk sv lbv tbv wsv lbr a) (hS : St k p lo L0 w1 c u col rest s lb tb ws sv lbv tbv wsv w)
    (hK : ∀ a' w' u', Fm sg p t mk sv lbv tbv wsv lbr a' → St k p lo L0 w1 c u' col rest s lb tb ws sv lbv tbv wsv w' → Rdy k.T c 2 u' → 1 ≤ u' → K a' w') :
    c124.wp Tryd.prog (Exit.then K Q) a w := by
  have hub0 : Calls Tryd.prog 101 #[.pointer (some ⟨p, 0, none⟩), .int .i64 2] w fun e w' => e = .returned (.bool true) ∧ Filled k p L0 c 2 col rest w w' := hS.here.ub hC.round 2 (by omega) (by omega) (by have := hS.kp.size; have := hC.low; have := hC.two; omega)
  have hub := Lib.hid hub0
  clear hub0
  have HS := Lib.hid hS
  have HKK := Lib.hid hK
  have HFAR := Lib.hid hC.far
  obtain ⟨bp, bl, mi, ml, z, L, h1, h24, h25, h26, h19, m1, m2, m3, ho⟩ := hS.here.ex
  have hsm := h1.small
  obtain ⟨c16, f16⟩ := at_ h1.pb 16 h1.at16
  obtain ⟨c17, f17⟩ := at_ h1.pb 17 h1.at17
  obtain ⟨c18, f18⟩ := at_ h1.pb 18 h1.at18
  obtain ⟨c26, f26⟩ := at_ h1.pb 26 h26
  have j2 : (bl : Int) ≤ 541 := by omega
  have j0 : (0 : Int) ≤ (bp : Int) := by omega
  by_cases hlt : u < 2
  · have e1 : decide ((u : Int) < 2) = true := by simp; omega
    have e2 : (u : Int) < 2 := by omega
    rw [lit717 a hF.size hF.defers, hF.s0, hF.s1, hF.s2, hF.s7, hF.s8, hF.s9, hF.s10, hF.s11, hF.s12]
    clear h1 h24 h25 h26 h19 ho hC hF hS hK
    conv => arg 2; whnf
    try simp only [List.append]
    go_wp2_with fail
    refine hub.out.mono ?_
    rintro e w' ⟨rfl, ⟨u', hr, hu', hat⟩, hkp, hsz⟩
    have hst := HS.out.turn HFAR.out hkp hat (Nat.le_refl _)
    have HST := Lib.hid hst
    have HR := Lib.hid hr
    clear hst hr hat hkp hsz hub HS c16 f16 c17 f17 c18 f18 c26 f26
    go_wp2_with fail
    exact HKK.out _ _ u' ⟨rfl, rfl, rfl, rfl, rfl, rfl, rfl, rfl, rfl, rfl, rfl⟩ (HST.out.drewN 0) HR.out hu'
  · have e1 : decide ((u : Int) < 2) = false := by simp; omega
    have e2 : ¬ ((u : Int) < 2) := by omega
    rw [lit717 a hF.size hF.defers, hF.s0, hF.s1, hF.s2, hF.s7, hF.s8, hF.s9, hF.s10, hF.s11, hF.s12]
    clear h1 h24 h25 h26 h19 ho hC hF hS hK hub
    conv => arg 2; whnf
    try simp only [List.append]
    go_wp2_with fail
    exact HKK.out _ _ u ⟨rfl, rfl, rfl, rfl, rfl, rfl, rfl, rfl, rfl, rfl, rfl⟩ HS.out (.inl (by omega)) (by omega)
set_option maxHeartbeats 32000000 in
set_option maxRecDepth 100000 in
theorem s126 {k : Kn} {p t mk lo : Nat} {s0 s1 s2 : Int} {L0 : List Value} {w1 : World} (hC : Cx k p mk lo s0 s1 s2 L0 w1) {sg : Bool} {sv lbv tbv wsv : Value} {lbr : Bool} {a : Act} {w : World} {K : Act → World → Prop} {Q : Exit → Act → World → Prop} (hF : Fm sg p t mk sv lbv tbv wsv lbr a)
    (hK : ∀ a', Fm sg p t mk sv lbv tbv wsv lbr a' → gt a' 647 = .bool (!lbr) → K a' w) :
    c126.wp Tryd.prog (Exit.then K Q) a w := by
  have HKK := Lib.hid hK
  rw [lit717 a hF.size hF.defers, hF.s0, hF.s1, hF.s2, hF.s7, hF.s8, hF.s9, hF.s10, hF.s11, hF.s12]
  clear hC hF hK
  conv => arg 2; whnf
  go_wp2_with fail
  exact HKK.out _ ⟨rfl, rfl, rfl, rfl, rfl, rfl, rfl, rfl, rfl, rfl, rfl⟩ rfl
/-- A row is emptied. -/
theorem _root_.Go.Proofs.YtocbbekciphjgaaDoor.Sc.Row.cut {lo : Nat} {w : World} {l : List Int} {g cap : Nat} (h : Row lo w (.slice (some ⟨g, 0, none⟩) l.length cap) l) : Row lo w (.slice (some ⟨g, 0, none⟩) 0 cap) [] := by
  obtain ⟨h1, ⟨h0, _⟩ | ⟨g', c, cur, he, h2, h3, h4, h5, h6, h7⟩⟩ := h
  · cases h0
  · cases he
    exact ⟨by simp, .inr ⟨g, cap, cur, rfl, h2, h3, Nat.zero_le _, h5, h6, by simp⟩⟩
theorem St.cut11 {k : Kn} {p lo : Nat} {L0 : List Value} {w1 : World} {c u col : Nat} {rest s lb tb ws : List Int} {sv lbv tbv wsv v' : Value} {w : World} (h : St k p lo L0 w1 c u col rest s lb tb ws sv lbv tbv wsv w) (hrow : Row lo w v' []) (ho : ∀ g, v'.ownBlock = some g → wsv.ownBlock = some g) : St k p lo L0 w1 c u col rest s lb tb [] sv lbv tbv v' w :=
  ⟨h.here, h.kp, h.r8, h.r9, h.r10, hrow, h.a89, h.a80, (fun g hg hg' => h.a81 g hg (ho g hg')), h.a90, (fun g hg hg' => h.a91 g hg (ho g hg')), (fun g hg hg' => h.a01 g hg (ho g hg')), by have := h.sz; simp only [List.length_nil]; omega⟩
set_option maxHeartbeats 32000000 in
set_option maxRecDepth 100000 in
theorem s127 {k : Kn} {p t mk lo : Nat} {s0 s1 s2 : Int} {L0 : List Value} {w1 : World} (hC : Cx k p mk lo s0 s1 s2 L0 w1) {sg : Bool} {c u col : Nat} {rest s lb tb ws : List Int} {sv lbv tbv wsv : Value} {lbr : Bool} {a : Act} {w : World} {K : Act → World → Prop} {Q : Exit → Act → World → Prop} (hF : Fm sg p t mk sv lbv tbv wsv lbr a) (hS : St k p lo L0 w1 c u col rest s lb tb ws sv lbv tbv wsv w)
    (hK : ∀ a' v', Fm sg p t mk sv lbv tbv v' lbr a' → St k p lo L0 w1 c u col rest s lb tb [] sv lbv tbv v' w → K a' w) :
    c127.wp Tryd.prog (Exit.then K Q) a w := by
  have HS := Lib.hid hS
  have HKK := Lib.hid hK
  have hrow := hS.r11
  obtain ⟨q1, ⟨q2, q3⟩ | ⟨g, cap, cur, q2, q3, q4, q5, q6, q7⟩⟩ := id hrow
  · subst q2
    rw [lit717 a hF.size hF.defers, hF.s0, hF.s1, hF.s2, hF.s7, hF.s8, hF.s9, hF.s10, hF.s11, hF.s12]
    clear hC hF hS hK hrow q1
    conv => arg 2; whnf
    go_wp2_with fail
    exact HKK.out _ _ ⟨rfl, rfl, rfl, rfl, rfl, rfl, rfl, rfl, rfl, rfl, rfl⟩ (HS.out.cut11 (Row.nil _ _) (fun g hg => by cases hg))
  · subst q2
    have q9 : (0 : Int) ≤ (cap : Int) := by omega
    rw [lit717 a hF.size hF.defers, hF.s0, hF.s1, hF.s2, hF.s7, hF.s8, hF.s9, hF.s10, hF.s11, hF.s12]
    clear hC hF hS hK hrow q1 q4 q7
    conv => arg 2; whnf
    go_wp2_with fail
    exact HKK.out _ _ ⟨rfl, rfl, rfl, rfl, rfl, rfl, rfl, rfl, rfl, rfl, rfl⟩ (HS.out.cut11 HS.out.r11.cut (fun g hg => hg))
set_option maxHeartbeats 32000000 in
set_option maxRecDepth 100000 in
theorem s128 {k : Kn} {p t mk lo : Nat} {s0 s1 s2 : Int} {L0 : List Value} {w1 : World} (hC : Cx k p mk lo s0 s1 s2 L0 w1) {sg : Bool} {c u col : Nat} {r s lb tb ws : List Int} {sv lbv tbv wsv : Value} {lbr : Bool} {a : Act} {w : World} {K : Act → World → Prop} {Q : Exit → Act → World → Prop} (hF : Fm sg p t mk sv lbv tbv wsv lbr a) (hS : St k p lo L0 w1 c (u + 1) col (10 :: r) s lb tb ws sv lbv tbv wsv w)
    (hK : ∀ a' w' v', Fm sg p t mk sv v' tbv wsv lbr a' → St k p lo L0 w1 (c + 1) u 0 r s (lb ++ [10]) tb ws sv v' tbv wsv w' → K a' w') :
    c128.wp Tryd.prog (Exit.then K Q) a w := by
  have hlo : lo ≤ w.heap.size := by have := hS.kp.size; have := hC.low; omega
  have hcl := hS.here.fro.2
  have hlen := hS.here.len
  have hsz := hS.sz
  have hsk := Lib.hid (hS.here.read_line hS.r9 (by omega) hlo hC.far)
  have HS := Lib.hid hS
  have HKK := Lib.hid hK
  have HFAR := Lib.hid hC.far
  have HLOW := Lib.hid hC.low
  rw [lit717 a hF.size hF.defers, hF.s0, hF.s1, hF.s2, hF.s7, hF.s8, hF.s9, hF.s10, hF.s11, hF.s12]
  clear hC hF hS hK
  conv => arg 2; whnf
  go_wp2_with fail
  refine hsk.out.mono ?_
  rintro e w' ⟨v', rfl, hat, hgv⟩
  have HST := Lib.hid (HS.out.gave9 HFAR.out HLOW.out hgv hat (by simp only [List.length_append, List.length_cons, List.length_nil]; omega))
  clear hat hgv hsk HS
  go_wp2_with fail
  exact HKK.out _ _ v' ⟨rfl, rfl, rfl, rfl, rfl, rfl, rfl, rfl, rfl, rfl, rfl⟩ HST.out
set_option maxHeartbeats 32000000 in
set_option maxRecDepth 100000 in
theorem s129 {k : Kn} {p t mk lo : Nat} {s0 s1 s2 : Int} {L0 : List Value} {w1 : World} (hC : Cx k p mk lo s0 s1 s2 L0 w1) {sg : Bool} {sv lbv tbv wsv : Value} {lbr : Bool} {a : Act} {w : World} {K : Act → World → Prop} {Q : Exit → Act → World → Prop} (hF : Fm sg p t mk sv lbv tbv wsv lbr a)
    (hK : ∀ a', Fm sg p t mk sv lbv tbv wsv true a' → K a' w) :
    c129.wp Tryd.prog (Exit.then K Q) a w := by
  have HKK := Lib.hid hK
  rw [lit717 a hF.size hF.defers, hF.s0, hF.s1, hF.s2, hF.s7, hF.s8, hF.s9, hF.s10, hF.s11, hF.s12]
  clear hC hF hK
  conv => arg 2; whnf
  go_wp2_with fail
  exact HKK.out _ ⟨rfl, rfl, rfl, rfl, rfl, rfl, rfl, rfl, rfl, rfl, rfl⟩
set_option maxHeartbeats 32000000 in
set_option maxRecDepth 100000 in
theorem s130 {k : Kn} {p t mk lo : Nat} {s0 s1 s2 : Int} {L0 : List Value} {w1 : World} (hC : Cx k p mk lo s0 s1 s2 L0 w1) {sg : Bool} {c u col : Nat} {r s lb tb ws : List Int} {sv lbv tbv wsv : Value} {lbr : Bool} {a : Act} {w : World} {K : Act → World → Prop} {Q : Exit → Act → World → Prop} (hF : Fm sg p t mk sv lbv tbv wsv lbr a) (hS : St k p lo L0 w1 c (u + 1) col (10 :: r) s lb tb ws sv lbv tbv wsv w)
    (hK : ∀ a' w' v', Fm sg p t mk sv lbv v' wsv lbr a' → St k p lo L0 w1 (c + 1) u 0 r s lb (tb ++ [10]) ws sv lbv v' wsv w' → K a' w') :
    c130.wp Tryd.prog (Exit.then K Q) a w := by
  have hlo : lo ≤ w.heap.size := by have := hS.kp.size; have := hC.low; omega
  have hcl := hS.here.fro.2
  have hlen := hS.here.len
  have hsz := hS.sz
  have hsk := Lib.hid (hS.here.read_line hS.r10 (by omega) hlo hC.far)
  have HS := Lib.hid hS
  have HKK := Lib.hid hK
  have HFAR := Lib.hid hC.far
  have HLOW := Lib.hid hC.low
  rw [lit717 a hF.size hF.defers, hF.s0, hF.s1, hF.s2, hF.s7, hF.s8, hF.s9, hF.s10, hF.s11, hF.s12]
  clear hC hF hS hK
  conv => arg 2; whnf
  go_wp2_with fail
  refine hsk.out.mono ?_
  rintro e w' ⟨v', rfl, hat, hgv⟩
  have HST := Lib.hid (HS.out.gave10 HFAR.out HLOW.out hgv hat (by simp only [List.length_append, List.length_cons, List.length_nil]; omega))
  clear hat hgv hsk HS
  go_wp2_with fail
  exact HKK.out _ _ v' ⟨rfl, rfl, rfl, rfl, rfl, rfl, rfl, rfl, rfl, rfl, rfl⟩ HST.out
set_option maxHeartbeats 32000000 in
set_option maxRecDepth 100000 in
theorem uDv {k : Kn} {p t mk lo : Nat} {s0 s1 s2 : Int} {L0 : List Value} {w1 : World} (hC : Cx k p mk lo s0 s1 s2 L0 w1) {sg : Bool} {c u col : Nat} {rest s lb tb ws : List Int} {sv lbv tbv wsv : Value} {lbr : Bool} {a : Act} {w : World} {K : Act → World → Prop} {Q : Exit → Act → World → Prop} (hF : Fm sg p t mk sv lbv tbv wsv lbr a) (hS : St k p lo L0 w1 c u col rest s lb tb ws sv lbv tbv wsv w)
    (hK : ∀ a' w' u', Fm sg p t mk sv lbv tbv wsv lbr a' → St k p lo L0 w1 c u' col rest s lb tb ws sv lbv tbv wsv w' → Rdy k.T c 1 u' → 1 ≤ u' → K a' w') :
    cDv.wp Tryd.prog (Exit.then K Q) a w := by
  have hub0 : Calls Tryd.prog 101 #[.pointer (some ⟨p, 0, none⟩), .int .i64 1] w fun e w' => e = .returned (.bool true) ∧ Filled k p L0 c 1 col rest w w' := hS.here.ub hC.round 1 (by omega) (by omega) (by have := hS.kp.size; have := hC.low; have := hC.two; omega)
  have hub := Lib.hid hub0
  clear hub0
  have HS := Lib.hid hS
  have HKK := Lib.hid hK
  have HFAR := Lib.hid hC.far
  obtain ⟨bp, bl, mi, ml, z, L, h1, h24, h25, h26, h19, m1, m2, m3, ho⟩ := hS.here.ex
  have hsm := h1.small
  obtain ⟨c16, f16⟩ := at_ h1.pb 16 h1.at16
  obtain ⟨c17, f17⟩ := at_ h1.pb 17 h1.at17
  obtain ⟨c18, f18⟩ := at_ h1.pb 18 h1.at18
  obtain ⟨c26, f26⟩ := at_ h1.pb 26 h26
  have j2 : (bl : Int) ≤ 541 := by omega
  have j0 : (0 : Int) ≤ (bp : Int) := by omega
  by_cases hlt : u < 1
  · have e1 : decide ((u : Int) < 1) = true := by simp; omega
    have e2 : (u : Int) < 1 := by omega
    rw [lit717 a hF.size hF.defers, hF.s0, hF.s1, hF.s2, hF.s7, hF.s8, hF.s9, hF.s10, hF.s11, hF.s12]
    clear h1 h24 h25 h26 h19 ho hC hF hS hK
    conv => arg 2; whnf
    try simp only [List.append]
    go_wp2_with fail
    refine hub.out.mono ?_
    rintro e w' ⟨rfl, ⟨u', hr, hu', hat⟩, hkp, hsz⟩
    have hst := HS.out.turn HFAR.out hkp hat (Nat.le_refl _)
    have HST := Lib.hid hst
    have HR := Lib.hid hr
    clear hst hr hat hkp hsz hub HS c16 f16 c17 f17 c18 f18 c26 f26
    go_wp2_with fail
    exact HKK.out _ _ u' ⟨rfl, rfl, rfl, rfl, rfl, rfl, rfl, rfl, rfl, rfl, rfl⟩ (HST.out.drewN 0) HR.out hu'
  · have e1 : decide ((u : Int) < 1) = false := by simp; omega
    have e2 : ¬ ((u : Int) < 1) := by omega
    rw [lit717 a hF.size hF.defers, hF.s0, hF.s1, hF.s2, hF.s7, hF.s8, hF.s9, hF.s10, hF.s11, hF.s12]
    clear h1 h24 h25 h26 h19 ho hC hF hS hK hub
    conv => arg 2; whnf
    try simp only [List.append]
    go_wp2_with fail
    exact HKK.out _ _ u ⟨rfl, rfl, rfl, rfl, rfl, rfl, rfl, rfl, rfl, rfl, rfl⟩ HS.out (.inl (by omega)) (by omega)
end Go.Proofs.YtocbbekciphjgaaDoor.Qd
