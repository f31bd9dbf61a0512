/- QfD, QfE, QfF: parts of the proof, one behind another. -/
import Derived.Test.YtocbbekciphjgaaDoorMh2
import Derived.Test.YtocbbekciphjgaaDoorMh5
/- QfD -/
/- Indentation and breaks (yaml_parser_scan_block_scalar_breaks): the looks, the walks. Printed by genQf.py. -/
namespace Go.Proofs.YtocbbekciphjgaaDoor.Bs
open Go.RowKit Go.Proofs.YtocbbekciphjgaaDoor.Rdp Go.Proofs.YtocbbekciphjgaaDoor.Pa Go.Proofs.YtocbbekciphjgaaDoor.Sc Go.Proofs.YtocbbekciphjgaaDoor.Qd
set_option linter.unusedVariables false
set_option linter.unusedSimpArgs false
set_option maxHeartbeats 32000000 in
set_option maxRecDepth 100000 in
theorem uU1 {k : Kn} {p lo ib bb eb : Nat} {pn : Int} {L0 : List Value} (hC : Cb k p lo ib bb eb L0 pn) {w1 : World} {v1 : Value} {c u col d tb mx : Nat} {rest : List Int} {v : Value} {a : Act} {w : World} {K : Act → World → Prop} {Q : Exit → Act → World → Prop} (hF : Fb p ib bb eb mx a) (hS : Sb k p lo ib bb eb L0 w1 v1 c u col rest d tb v w)
    (hK : ∀ a' w' u', Fb p ib bb eb mx a' → Sb k p lo ib bb eb L0 w1 v1 c u' col rest d tb v w' → Rdy k.T c 1 u' → 1 ≤ u' → K a' w') :
    bU1.wp Tryd.prog (Exit.then K Q) a w := by
  have hub0 : Calls Tryd.prog 101 #[.pointer (some ⟨p, 0, none⟩), .int .i64 1] w fun e w' => e = .returned (.bool true) ∧ Filled k p L0 c 1 col rest w w' := hS.here.ub hC.round 1 (by omega) (by omega) (by have := hS.kp.size; have := hS.lo1; have := hC.two; omega)
  have hub := Lib.hid hub0
  clear hub0
  have HS := Lib.hid hS
  have HKK := Lib.hid hK
  have HC := Lib.hid hC
  obtain ⟨bp, bl, mi, ml, z, L, h1, h24, h25, h26, h19, m1, m2, m3, ho⟩ := hS.here.ex
  have hsm := h1.small
  obtain ⟨c16, f16⟩ := at_ h1.pb 16 h1.at16
  obtain ⟨c17, f17⟩ := at_ h1.pb 17 h1.at17
  obtain ⟨c18, f18⟩ := at_ h1.pb 18 h1.at18
  obtain ⟨c26, f26⟩ := at_ h1.pb 26 h26
  obtain ⟨ci, fi⟩ := at_ hS.bi 0 (v := .int .i64 (d : Nat)) rfl
  have j2 : (bl : Int) ≤ 541 := by omega
  have j0 : (0 : Int) ≤ (bp : Int) := by omega
  by_cases hlt : u < 1
  · have e1 : decide ((u : Int) < 1) = true := by simp; omega
    have e2 : (u : Int) < 1 := by omega
    rw [lit169 a hF.size hF.defers, hF.s0, hF.s1, hF.s2, hF.s4, hF.s11]
    clear h1 h24 h25 h26 h19 ho hC hF hS hK
    conv => arg 2; whnf
    try simp only [List.append]
    go_wp2_with fail
    refine hub.out.mono ?_
    rintro e w' ⟨rfl, ⟨u', hr, hu', hat⟩, hkp, hsz⟩
    have hst := HS.out.turn HC.out hkp hat (Nat.le_refl _)
    have HST := Lib.hid hst
    have HR := Lib.hid hr
    clear hst hr hat hkp hsz hub HS c16 f16 c17 f17 c18 f18 c26 f26 ci fi
    go_wp2_with fail
    exact HKK.out _ _ u' ⟨rfl, rfl, rfl, rfl, rfl, rfl, rfl⟩ (HST.out.drewN 0) HR.out hu'
  · have e1 : decide ((u : Int) < 1) = false := by simp; omega
    have e2 : ¬ ((u : Int) < 1) := by omega
    rw [lit169 a hF.size hF.defers, hF.s0, hF.s1, hF.s2, hF.s4, hF.s11]
    clear h1 h24 h25 h26 h19 ho hC hF hS hK hub
    conv => arg 2; whnf
    try simp only [List.append]
    go_wp2_with fail
    exact HKK.out _ _ u ⟨rfl, rfl, rfl, rfl, rfl, rfl, rfl⟩ HS.out (.inl (by omega)) (by omega)
set_option maxHeartbeats 32000000 in
set_option maxRecDepth 100000 in
theorem uU2 {k : Kn} {p lo ib bb eb : Nat} {pn : Int} {L0 : List Value} (hC : Cb k p lo ib bb eb L0 pn) {w1 : World} {v1 : Value} {c u col d tb mx : Nat} {rest : List Int} {v : Value} {a : Act} {w : World} {K : Act → World → Prop} {Q : Exit → Act → World → Prop} (hF : Fb p ib bb eb mx a) (hS : Sb k p lo ib bb eb L0 w1 v1 c u col rest d tb v w)
    (hK : ∀ a' w' u', Fb p ib bb eb mx a' → Sb k p lo ib bb eb L0 w1 v1 c u' col rest d tb v w' → Rdy k.T c 2 u' → 1 ≤ u' → K a' w') :
    bU2.wp Tryd.prog (Exit.then K Q) a w := by
  have hub0 : Calls Tryd.prog 101 #[.pointer (some ⟨p, 0, none⟩), .int .i64 2] w fun e w' => e = .returned (.bool true) ∧ Filled k p L0 c 2 col rest w w' := hS.here.ub hC.round 2 (by omega) (by omega) (by have := hS.kp.size; have := hS.lo1; have := hC.two; omega)
  have hub := Lib.hid hub0
  clear hub0
  have HS := Lib.hid hS
  have HKK := Lib.hid hK
  have HC := Lib.hid hC
  obtain ⟨bp, bl, mi, ml, z, L, h1, h24, h25, h26, h19, m1, m2, m3, ho⟩ := hS.here.ex
  have hsm := h1.small
  obtain ⟨c16, f16⟩ := at_ h1.pb 16 h1.at16
  obtain ⟨c17, f17⟩ := at_ h1.pb 17 h1.at17
  obtain ⟨c18, f18⟩ := at_ h1.pb 18 h1.at18
  obtain ⟨c26, f26⟩ := at_ h1.pb 26 h26
  obtain ⟨ci, fi⟩ := at_ hS.bi 0 (v := .int .i64 (d : Nat)) rfl
  have j2 : (bl : Int) ≤ 541 := by omega
  have j0 : (0 : Int) ≤ (bp : Int) := by omega
  by_cases hlt : u < 2
  · have e1 : decide ((u : Int) < 2) = true := by simp; omega
    have e2 : (u : Int) < 2 := by omega
    rw [lit169 a hF.size hF.defers, hF.s0, hF.s1, hF.s2, hF.s4, hF.s11]
    clear h1 h24 h25 h26 h19 ho hC hF hS hK
    conv => arg 2; whnf
    try simp only [List.append]
    go_wp2_with fail
    refine hub.out.mono ?_
    rintro e w' ⟨rfl, ⟨u', hr, hu', hat⟩, hkp, hsz⟩
    have hst := HS.out.turn HC.out hkp hat (Nat.le_refl _)
    have HST := Lib.hid hst
    have HR := Lib.hid hr
    clear hst hr hat hkp hsz hub HS c16 f16 c17 f17 c18 f18 c26 f26 ci fi
    go_wp2_with fail
    exact HKK.out _ _ u' ⟨rfl, rfl, rfl, rfl, rfl, rfl, rfl⟩ (HST.out.drewN 0) HR.out hu'
  · have e1 : decide ((u : Int) < 2) = false := by simp; omega
    have e2 : ¬ ((u : Int) < 2) := by omega
    rw [lit169 a hF.size hF.defers, hF.s0, hF.s1, hF.s2, hF.s4, hF.s11]
    clear h1 h24 h25 h26 h19 ho hC hF hS hK hub
    conv => arg 2; whnf
    try simp only [List.append]
    go_wp2_with fail
    exact HKK.out _ _ u ⟨rfl, rfl, rfl, rfl, rfl, rfl, rfl⟩ HS.out (.inl (by omega)) (by omega)
set_option maxHeartbeats 32000000 in
set_option maxRecDepth 100000 in
theorem uUI {k : Kn} {p lo ib bb eb : Nat} {pn : Int} {L0 : List Value} (hC : Cb k p lo ib bb eb L0 pn) {w1 : World} {v1 : Value} {c u col d tb mx : Nat} {rest : List Int} {v : Value} {a : Act} {w : World} {K : Act → World → Prop} {Q : Exit → Act → World → Prop} (hF : Fb p ib bb eb mx a) (hS : Sb k p lo ib bb eb L0 w1 v1 c u col rest d tb v w)
    (hK : ∀ a' w' u', Fb p ib bb eb mx a' → Sb k p lo ib bb eb L0 w1 v1 c u' col rest d tb v w' → Rdy k.T c 1 u' → 1 ≤ u' → K a' w') :
    bUI.wp Tryd.prog (Exit.then K Q) a w := by
  have hub0 : Calls Tryd.prog 101 #[.pointer (some ⟨p, 0, none⟩), .int .i64 1] w fun e w' => e = .returned (.bool true) ∧ Filled k p L0 c 1 col rest w w' := hS.here.ub hC.round 1 (by omega) (by omega) (by have := hS.kp.size; have := hS.lo1; have := hC.two; omega)
  have hub := Lib.hid hub0
  clear hub0
  have HS := Lib.hid hS
  have HKK := Lib.hid hK
  have HC := Lib.hid hC
  obtain ⟨bp, bl, mi, ml, z, L, h1, h24, h25, h26, h19, m1, m2, m3, ho⟩ := hS.here.ex
  have hsm := h1.small
  obtain ⟨c16, f16⟩ := at_ h1.pb 16 h1.at16
  obtain ⟨c17, f17⟩ := at_ h1.pb 17 h1.at17
  obtain ⟨c18, f18⟩ := at_ h1.pb 18 h1.at18
  obtain ⟨c26, f26⟩ := at_ h1.pb 26 h26
  obtain ⟨ci, fi⟩ := at_ hS.bi 0 (v := .int .i64 (d : Nat)) rfl
  have j2 : (bl : Int) ≤ 541 := by omega
  have j0 : (0 : Int) ≤ (bp : Int) := by omega
  by_cases hlt : u < 1
  · have e1 : decide ((u : Int) < 1) = true := by simp; omega
    have e2 : (u : Int) < 1 := by omega
    rw [lit169 a hF.size hF.defers, hF.s0, hF.s1, hF.s2, hF.s4, hF.s11]
    clear h1 h24 h25 h26 h19 ho hC hF hS hK
    conv => arg 2; whnf
    try simp only [List.append]
    go_wp2_with fail
    refine hub.out.mono ?_
    rintro e w' ⟨rfl, ⟨u', hr, hu', hat⟩, hkp, hsz⟩
    have hst := HS.out.turn HC.out hkp hat (Nat.le_refl _)
    have HST := Lib.hid hst
    have HR := Lib.hid hr
    clear hst hr hat hkp hsz hub HS c16 f16 c17 f17 c18 f18 c26 f26 ci fi
    go_wp2_with fail
    exact HKK.out _ _ u' ⟨rfl, rfl, rfl, rfl, rfl, rfl, rfl⟩ (HST.out.drewN 0) HR.out hu'
  · have e1 : decide ((u : Int) < 1) = false := by simp; omega
    have e2 : ¬ ((u : Int) < 1) := by omega
    rw [lit169 a hF.size hF.defers, hF.s0, hF.s1, hF.s2, hF.s4, hF.s11]
    clear h1 h24 h25 h26 h19 ho hC hF hS hK hub
    conv => arg 2; whnf
    try simp only [List.append]
    go_wp2_with fail
    exact HKK.out _ _ u ⟨rfl, rfl, rfl, rfl, rfl, rfl, rfl⟩ HS.out (.inl (by omega)) (by omega)
set_option maxHeartbeats 32000000 in
set_option maxRecDepth 100000 in
theorem sH {k : Kn} {p lo ib bb eb : Nat} {pn : Int} {L0 : List Value} (hC : Cb k p lo ib bb eb L0 pn) {w1 : World} {v1 : Value} {c u col d tb mx : Nat} {rest : List Int} {v : Value} {a : Act} {w : World} {K : Act → World → Prop} {Q : Exit → Act → World → Prop} (hF : Fb p ib bb eb mx a) (hS : Sb k p lo ib bb eb L0 w1 v1 c u col rest d tb v w) (hu1 : 1 ≤ u)
    (hK : spq d col (fb rest) 32 = true → ∀ a' w', Fb p ib bb eb mx a' → Sb k p lo ib bb eb L0 w1 v1 c u col rest d tb v w' → K a' w')
    (hX : spq d col (fb rest) 32 = false → ∀ a' w', Fb p ib bb eb mx a' → Sb k p lo ib bb eb L0 w1 v1 c u col rest d tb v w' → Q (.exit 2) a' w') :
    bH.wp Tryd.prog (Exit.then K Q) a w := by
  obtain ⟨bp, bl, mi, ml, z, L, h1, h24, h25, h26, h19, m1, m2, m3, ho⟩ := hS.here.ex
  have hsm := h1.small
  obtain ⟨c16, f16⟩ := at_ h1.pb 16 h1.at16
  obtain ⟨c17, f17⟩ := at_ h1.pb 17 h1.at17
  obtain ⟨c18, f18⟩ := at_ h1.pb 18 h1.at18
  obtain ⟨c26, f26⟩ := at_ h1.pb 26 h26
  obtain ⟨ci, fi⟩ := at_ hS.bi 0 (v := .int .i64 (d : Nat)) rfl
  have j2 : (bl : Int) ≤ 541 := by omega
  have j0 : (0 : Int) ≤ (bp : Int) := by omega
  obtain ⟨y0, z0, hok0, hlay0⟩ := peek h1 [] rest (by simpa using hS.here.fro) (by simpa using hS.here.ch) (by simp) (by simp; omega)
  obtain ⟨x0, HX0⟩ : ∃ x0, Hid (fb rest = x0) := ⟨_, rfl⟩
  rw [HX0.out] at hok0 hlay0
  have hx0 := hlay0.hx
  have hj0 : (bp : Int) + 0 < (bl : Int) := by have := hlay0.hi; simp at this; omega
  simp only [List.length_nil, List.length_cons, Nat.zero_add, Nat.add_zero] at hlay0 hx0
  have hj0' : (bp : Int) < (bl : Int) := by omega
  have hcall : ∀ N, Calls Tryd.prog 135 #[.slice (some ⟨k.q, 0, none⟩) bl 1536, .int .i64 bp] (w.drewN N) fun e w' => e = .returned (.bool (x0 == 32)) ∧ w' = w.drewN N := fun N => sp_any k.q bp bl 1536 x0 (by have := hlay0.hi; omega) (by omega) hok0.x0 (by have := hok0.x1; omega) (w.drewN N) hx0
  obtain ⟨b0, hb0⟩ : ∃ b, (d == 0) = b := ⟨_, rfl⟩
  obtain ⟨b1, hb1⟩ : ∃ b, decide (col < d) = b := ⟨_, rfl⟩
  obtain ⟨b2, hb2⟩ : ∃ b, (x0 == 32) = b := ⟨_, rfl⟩
  have hq : spq d col x0 32 = ((b0 || b1) && b2) := by unfold spq; rw [hb0, hb1, hb2]
  have i0 : ((d : Int) == 0) = b0 := by rw [← hb0, Bool.eq_iff_iff]; simp
  have i1 : decide ((col : Int) < (d : Int)) = b1 := by rw [← hb1]; exact decide_eq_decide.2 (by omega)
  rw [HX0.out, hq] at hK hX
  rw [hb2] at hcall
  have HCALL := Lib.hid hcall
  have HS := Lib.hid hS
  have HKK := Lib.hid hK
  have HXX := Lib.hid hX
  rw [lit169 a hF.size hF.defers, hF.s0, hF.s1, hF.s2, hF.s4, hF.s11]
  clear h1 h24 h25 h26 h19 ho hC hF hS hK hX hcall hok0 hlay0 hx0 hb0 hb2 hq
  conv => arg 2; whnf
  try simp only [List.append]
  cases b0 <;> cases b1 <;> cases b2
  all_goals
    first | have i2 := of_decide_eq_true i1 | have i2 := of_decide_eq_false i1
    go_wp2_with fail
    go_quiet ((go_at_call 135; first | exact Calls.quiet_of_same (HCALL.out _) | exact quiet_add_same (HCALL.out _)))
    go_wp2_with fail
    first | exact HXX.out rfl _ _ ⟨rfl, rfl, rfl, rfl, rfl, rfl, rfl⟩ (HS.out.drewN _) | exact HKK.out rfl _ _ ⟨rfl, rfl, rfl, rfl, rfl, rfl, rfl⟩ (HS.out.drewN _)
set_option maxHeartbeats 32000000 in
set_option maxRecDepth 100000 in
theorem sT {k : Kn} {p lo ib bb eb : Nat} {pn : Int} {L0 : List Value} (hC : Cb k p lo ib bb eb L0 pn) {w1 : World} {v1 : Value} {c u col d tb mx : Nat} {rest : List Int} {v : Value} {a : Act} {w : World} {K : Act → World → Prop} {Q : Exit → Act → World → Prop} (hF : Fb p ib bb eb mx a) (hS : Sb k p lo ib bb eb L0 w1 v1 c u col rest d tb v w) (hu1 : 1 ≤ u) (hno : spq d col (fb rest) 9 = false)
    (hK : ∀ a' w', Fb p ib bb eb mx a' → Sb k p lo ib bb eb L0 w1 v1 c u col rest d tb v w' → K a' w') :
    bT.wp Tryd.prog (Exit.then K Q) a w := by
  obtain ⟨bp, bl, mi, ml, z, L, h1, h24, h25, h26, h19, m1, m2, m3, ho⟩ := hS.here.ex
  have hsm := h1.small
  obtain ⟨c16, f16⟩ := at_ h1.pb 16 h1.at16
  obtain ⟨c17, f17⟩ := at_ h1.pb 17 h1.at17
  obtain ⟨c18, f18⟩ := at_ h1.pb 18 h1.at18
  obtain ⟨c26, f26⟩ := at_ h1.pb 26 h26
  obtain ⟨ci, fi⟩ := at_ hS.bi 0 (v := .int .i64 (d : Nat)) rfl
  have j2 : (bl : Int) ≤ 541 := by omega
  have j0 : (0 : Int) ≤ (bp : Int) := by omega
  obtain ⟨y0, z0, hok0, hlay0⟩ := peek h1 [] rest (by simpa using hS.here.fro) (by simpa using hS.here.ch) (by simp) (by simp; omega)
  obtain ⟨x0, HX0⟩ : ∃ x0, Hid (fb rest = x0) := ⟨_, rfl⟩
  rw [HX0.out] at hok0 hlay0
  have hx0 := hlay0.hx
  have hj0 : (bp : Int) + 0 < (bl : Int) := by have := hlay0.hi; simp at this; omega
  simp only [List.length_nil, List.length_cons, Nat.zero_add, Nat.add_zero] at hlay0 hx0
  have hj0' : (bp : Int) < (bl : Int) := by omega
  have hcall : ∀ N, Calls Tryd.prog 136 #[.slice (some ⟨k.q, 0, none⟩) bl 1536, .int .i64 bp] (w.drewN N) fun e w' => e = .returned (.bool (x0 == 9)) ∧ w' = w.drewN N := fun N => tab_any k.q bp bl 1536 x0 (by have := hlay0.hi; omega) (by omega) hok0.x0 (by have := hok0.x1; omega) (w.drewN N) hx0
  obtain ⟨b0, hb0⟩ : ∃ b, (d == 0) = b := ⟨_, rfl⟩
  obtain ⟨b1, hb1⟩ : ∃ b, decide (col < d) = b := ⟨_, rfl⟩
  obtain ⟨b2, hb2⟩ : ∃ b, (x0 == 9) = b := ⟨_, rfl⟩
  have hq : spq d col x0 9 = ((b0 || b1) && b2) := by unfold spq; rw [hb0, hb1, hb2]
  have i0 : ((d : Int) == 0) = b0 := by rw [← hb0, Bool.eq_iff_iff]; simp
  have i1 : decide ((col : Int) < (d : Int)) = b1 := by rw [← hb1]; exact decide_eq_decide.2 (by omega)
  rw [HX0.out, hq] at hno
  rw [hb2] at hcall
  have HCALL := Lib.hid hcall
  have HS := Lib.hid hS
  have HKK := Lib.hid hK
  rw [lit169 a hF.size hF.defers, hF.s0, hF.s1, hF.s2, hF.s4, hF.s11]
  clear h1 h24 h25 h26 h19 ho hC hF hS hK hcall hok0 hlay0 hx0 hb0 hb2 hq
  conv => arg 2; whnf
  try simp only [List.append]
  cases b0 <;> cases b1 <;> cases b2
  all_goals
    first
      | exact Bool.noConfusion hno
      | skip
  all_goals
    clear hno
    first | have i2 := of_decide_eq_true i1 | have i2 := of_decide_eq_false i1
    go_wp2_with fail
    go_quiet ((go_at_call 136; first | exact Calls.quiet_of_same (HCALL.out _) | exact quiet_add_same (HCALL.out _)))
    go_wp2_with fail
    exact HKK.out _ _ ⟨rfl, rfl, rfl, rfl, rfl, rfl, rfl⟩ (HS.out.drewN _)
set_option maxHeartbeats 32000000 in
set_option maxRecDepth 100000 in
theorem sB {k : Kn} {p lo ib bb eb : Nat} {pn : Int} {L0 : List Value} (hC : Cb k p lo ib bb eb L0 pn) {w1 : World} {v1 : Value} {c u col d tb mx : Nat} {rest : List Int} {v : Value} {a : Act} {w : World} {K : Act → World → Prop} {Q : Exit → Act → World → Prop} (hF : Fb p ib bb eb mx a) (hS : Sb k p lo ib bb eb L0 w1 v1 c u col rest d tb v w) (hu1 : 1 ≤ u)
    (hK : fb rest = 10 → ∀ a' w', Fb p ib bb eb mx a' → Sb k p lo ib bb eb L0 w1 v1 c u col rest d tb v w' → K a' w')
    (hX : fb rest ≠ 10 → ∀ a' w', Fb p ib bb eb mx a' → Sb k p lo ib bb eb L0 w1 v1 c u col rest d tb v w' → Q (.exit 0) a' w') :
    bB.wp Tryd.prog (Exit.then K Q) a w := by
  obtain ⟨bp, bl, mi, ml, z, L, h1, h24, h25, h26, h19, m1, m2, m3, ho⟩ := hS.here.ex
  have hsm := h1.small
  obtain ⟨c16, f16⟩ := at_ h1.pb 16 h1.at16
  obtain ⟨c17, f17⟩ := at_ h1.pb 17 h1.at17
  obtain ⟨c18, f18⟩ := at_ h1.pb 18 h1.at18
  obtain ⟨c26, f26⟩ := at_ h1.pb 26 h26
  obtain ⟨ci, fi⟩ := at_ hS.bi 0 (v := .int .i64 (d : Nat)) rfl
  have j2 : (bl : Int) ≤ 541 := by omega
  have j0 : (0 : Int) ≤ (bp : Int) := by omega
  obtain ⟨y0, z0, hok0, hlay0⟩ := peek h1 [] rest (by simpa using hS.here.fro) (by simpa using hS.here.ch) (by simp) (by simp; omega)
  obtain ⟨x0, HX0⟩ : ∃ x0, Hid (fb rest = x0) := ⟨_, rfl⟩
  rw [HX0.out] at hok0 hlay0
  have hx0 := hlay0.hx
  have hj0 : (bp : Int) + 0 < (bl : Int) := by have := hlay0.hi; simp at this; omega
  simp only [List.length_nil, List.length_cons, Nat.zero_add, Nat.add_zero] at hlay0 hx0
  have hj0' : (bp : Int) < (bl : Int) := by omega
  have hcall : ∀ N, Calls Tryd.prog 115 #[.slice (some ⟨k.q, 0, none⟩) bl 1536, .int .i64 bp] (w.drewN N) fun e w' => e = .returned (.bool (x0 == 10)) ∧ w' = w.drewN N := fun N => brk_any k.q bp bl 1536 x0 y0 z0 (by omega) hok0 (w.drewN N) ⟨hlay0.hi, hlay0.hx, hlay0.hy, hlay0.hz⟩
  rw [HX0.out] at hK hX
  have HCALL := Lib.hid hcall
  have HS := Lib.hid hS
  have HKK := Lib.hid hK
  have HXX := Lib.hid hX
  rw [lit169 a hF.size hF.defers, hF.s0, hF.s1, hF.s2, hF.s4, hF.s11]
  clear h1 h24 h25 h26 h19 ho hC hF hS hK hX hcall hok0 hlay0 hx0
  conv => arg 2; whnf
  try simp only [List.append]
  by_cases hb : x0 = 10
  · have HB := Lib.hid hb
    rw [show (x0 == 10) = true by simpa using hb] at HCALL
    clear hb
    go_wp2_with fail
    go_quiet ((go_at_call 115; exact Calls.quiet_of_same (HCALL.out _)))
    go_wp2_with fail
    exact HKK.out HB.out _ _ ⟨rfl, rfl, rfl, rfl, rfl, rfl, rfl⟩ (HS.out.drewN _)
  · have HB := Lib.hid hb
    rw [show (x0 == 10) = false by simpa using hb] at HCALL
    clear hb
    go_wp2_with fail
    go_quiet ((go_at_call 115; exact Calls.quiet_of_same (HCALL.out _)))
    go_wp2_with fail
    exact HXX.out HB.out _ _ ⟨rfl, rfl, rfl, rfl, rfl, rfl, rfl⟩ (HS.out.drewN _)
set_option maxHeartbeats 32000000 in
set_option maxRecDepth 100000 in
theorem sM {k : Kn} {p lo ib bb eb : Nat} {pn : Int} {L0 : List Value} (hC : Cb k p lo ib bb eb L0 pn) {w1 : World} {v1 : Value} {c u col d tb mx : Nat} {rest : List Int} {v : Value} {a : Act} {w : World} {K : Act → World → Prop} {Q : Exit → Act → World → Prop} (hF : Fb p ib bb eb mx a) (hS : Sb k p lo ib bb eb L0 w1 v1 c u col rest d tb v w)
    (hK : ∀ a', Fb p ib bb eb (max mx col) a' → K a' w) :
    bM.wp Tryd.prog (Exit.then K Q) a w := by
  obtain ⟨bp, bl, mi, ml, z, L, h1, h24, h25, h26, h19, m1, m2, m3, ho⟩ := hS.here.ex
  have hsm := h1.small
  obtain ⟨c16, f16⟩ := at_ h1.pb 16 h1.at16
  obtain ⟨c17, f17⟩ := at_ h1.pb 17 h1.at17
  obtain ⟨c18, f18⟩ := at_ h1.pb 18 h1.at18
  obtain ⟨c26, f26⟩ := at_ h1.pb 26 h26
  obtain ⟨ci, fi⟩ := at_ hS.bi 0 (v := .int .i64 (d : Nat)) rfl
  have j2 : (bl : Int) ≤ 541 := by omega
  have j0 : (0 : Int) ≤ (bp : Int) := by omega
  by_cases hlt : mx < col
  · have e1 : decide ((mx : Int) < (col : Int)) = true := by simp; omega
    have e2 : (mx : Int) < (col : Int) := by omega
    rw [show max mx col = col by omega] at hK
    have HKK := Lib.hid hK
    rw [lit169 a hF.size hF.defers, hF.s0, hF.s1, hF.s2, hF.s4, hF.s11]
    clear h1 h24 h25 h26 h19 ho hC hF hS hK
    conv => arg 2; whnf
    try simp only [List.append]
    go_wp2_with fail
    exact HKK.out _ ⟨rfl, rfl, rfl, rfl, rfl, rfl, rfl⟩
  · have e1 : decide ((mx : Int) < (col : Int)) = false := by simp; omega
    have e2 : ¬ ((mx : Int) < (col : Int)) := by omega
    rw [show max mx col = mx by omega] at hK
    have HKK := Lib.hid hK
    rw [lit169 a hF.size hF.defers, hF.s0, hF.s1, hF.s2, hF.s4, hF.s11]
    clear h1 h24 h25 h26 h19 ho hC hF hS hK
    conv => arg 2; whnf
    try simp only [List.append]
    go_wp2_with fail
    exact HKK.out _ ⟨rfl, rfl, rfl, rfl, rfl, rfl, rfl⟩
end Go.Proofs.YtocbbekciphjgaaDoor.Bs
/- QfE -/
/- Indentation and breaks (yaml_parser_scan_block_scalar_breaks): what is done, the walks. Printed by genQf.py. -/
namespace Go.Proofs.YtocbbekciphjgaaDoor.Bs
open Go.RowKit Go.Proofs.YtocbbekciphjgaaDoor.Rdp Go.Proofs.YtocbbekciphjgaaDoor.Pa Go.Proofs.YtocbbekciphjgaaDoor.Sc Go.Proofs.YtocbbekciphjgaaDoor.Qd
set_option linter.unusedVariables false
set_option linter.unusedSimpArgs false
set_option maxHeartbeats 32000000 in
set_option maxRecDepth 100000 in
theorem s6 {k : Kn} {p lo ib bb eb : Nat} {pn : Int} {L0 : List Value} (hC : Cb k p lo ib bb eb L0 pn) {w1 : World} {v1 : Value} {c u col d tb mx : Nat} {r : List Int} {v : Value} {a : Act} {w : World} {K : Act → World → Prop} {Q : Exit → Act → World → Prop} (hF : Fb p ib bb eb mx a) {x : Int} (hS : Sb k p lo ib bb eb L0 w1 v1 c (u + 1) col (x :: r) d tb v w)
    (hK : ∀ a' w', Fb p ib bb eb mx a' → Sb k p lo ib bb eb L0 w1 v1 (c + (u8 x).length) u (col + 1) r d tb v w' → K a' w') :
    b6.wp Tryd.prog (Exit.then K Q) a w := by
  have hsk := Lib.hid hS.here.skip
  have HS := Lib.hid hS
  have HKK := Lib.hid hK
  have HC := Lib.hid hC
  rw [lit169 a hF.size hF.defers, hF.s0, hF.s1, hF.s2, hF.s4, hF.s11]
  clear hC hF hS hK
  conv => arg 2; whnf
  go_wp2_with fail
  refine hsk.out.mono ?_
  rintro e w' ⟨rfl, hat, hkp, hsz⟩
  have HST := Lib.hid (HS.out.turn HC.out hkp hat (by omega))
  clear hat hkp hsz hsk HS
  go_wp2_with fail
  exact HKK.out _ _ ⟨rfl, rfl, rfl, rfl, rfl, rfl, rfl⟩ HST.out
set_option maxHeartbeats 32000000 in
set_option maxRecDepth 100000 in
theorem s16 {k : Kn} {p lo ib bb eb : Nat} {pn : Int} {L0 : List Value} (hC : Cb k p lo ib bb eb L0 pn) {w1 : World} {v1 : Value} {c u col d tb mx : Nat} {r : List Int} {v : Value} {a : Act} {w : World} {K : Act → World → Prop} {Q : Exit → Act → World → Prop} (hF : Fb p ib bb eb mx a) (hS : Sb k p lo ib bb eb L0 w1 v1 c (u + 1) col (10 :: r) d tb v w)
    (hK : ∀ a' w' v', Fb p ib bb eb mx a' → Sb k p lo ib bb eb L0 w1 v1 (c + 1) u 0 r d (tb + 1) v' w' → K a' w') :
    b16.wp Tryd.prog (Exit.then K Q) a w := by
  have hlo : lo ≤ w.heap.size := by have := hS.kp.size; have := hS.lo1; omega
  have hcl := hS.here.fro.2
  have hlen := hS.here.len
  have hsz := hS.sz
  have hl : (nls tb).length = tb := by unfold nls; simp
  have hsk := Lib.hid (hS.here.read_line hS.row (by omega) hlo hC.far)
  obtain ⟨cv, fv⟩ := at_ hS.bv 0 (v := v) rfl
  obtain ⟨va, vc, hve⟩ := hS.row.slice
  have HS := Lib.hid hS
  have HKK := Lib.hid hK
  have HC := Lib.hid hC
  rw [lit169 a hF.size hF.defers, hF.s0, hF.s1, hF.s2, hF.s4, hF.s11]
  clear hC hF hS hK hl
  subst hve
  conv => arg 2; whnf
  go_wp2_with fail
  refine hsk.out.mono ?_
  rintro e w' ⟨v', rfl, hat, hgv⟩
  obtain ⟨q1, q2⟩ := HS.out.fed HC.out hat hgv
  obtain ⟨va2, vc2, hve2⟩ := hgv.1.slice
  have HST := Lib.hid q2
  clear hat hgv hsk HS cv fv q2
  obtain ⟨cv, fv⟩ := at_ q1 0 rfl
  clear q1
  subst hve2
  (try simp only [List.length_append, List.length_cons, List.length_nil, Nat.zero_add] at HST)
  go_wp2_with fail
  exact HKK.out _ _ _ ⟨rfl, rfl, rfl, rfl, rfl, rfl, rfl⟩ HST.out
set_option maxHeartbeats 32000000 in
set_option maxRecDepth 100000 in
theorem s17 {k : Kn} {p lo ib bb eb : Nat} {pn : Int} {L0 : List Value} (hC : Cb k p lo ib bb eb L0 pn) {w1 : World} {v1 : Value} {c u col d tb mx : Nat} {rest : List Int} {v : Value} {a : Act} {w : World} {K : Act → World → Prop} {Q : Exit → Act → World → Prop} (hF : Fb p ib bb eb mx a) (hS : Sb k p lo ib bb eb L0 w1 v1 c u col rest d tb v w)
    (hK : ∀ a' w', Fb p ib bb eb mx a' → Sb k p lo ib bb eb L0 w1 v1 c u col rest d tb v w' → K a' w') :
    b17.wp Tryd.prog (Exit.then K Q) a w := by
  obtain ⟨bp, bl, mi, ml, z, L, h1, h24, h25, h26, h19, m1, m2, m3, ho⟩ := hS.here.ex
  have hsm := h1.small
  obtain ⟨c16, f16⟩ := at_ h1.pb 16 h1.at16
  obtain ⟨c17, f17⟩ := at_ h1.pb 17 h1.at17
  obtain ⟨c18, f18⟩ := at_ h1.pb 18 h1.at18
  obtain ⟨c26, f26⟩ := at_ h1.pb 26 h26
  obtain ⟨ci, fi⟩ := at_ hS.bi 0 (v := .int .i64 (d : Nat)) rfl
  have j2 : (bl : Int) ≤ 541 := by omega
  have j0 : (0 : Int) ≤ (bp : Int) := by omega
  obtain ⟨c24, f24⟩ := at_ h1.pb 24 h24
  obtain ⟨c25, f25⟩ := at_ h1.pb 25 h25
  obtain ⟨e0, e1, e2, he⟩ := hS.be
  obtain ⟨c0, f0⟩ := at_ he 0 rfl
  obtain ⟨cc1, ff1⟩ := at_ he 1 rfl
  obtain ⟨cc2, ff2⟩ := at_ he 2 rfl
  have HN := Lib.hid (hS.noted hC (mi : Nat) (ml : Nat) (col : Nat))
  have HKK := Lib.hid hK
  rw [lit169 a hF.size hF.defers, hF.s0, hF.s1, hF.s2, hF.s4, hF.s11]
  clear h1 h24 h25 h26 h19 ho hC hF hS hK he
  conv => arg 2; whnf
  go_wp2_with fail
  exact HKK.out _ _ ⟨rfl, rfl, rfl, rfl, rfl, rfl, rfl⟩ HN.out
set_option maxHeartbeats 32000000 in
set_option maxRecDepth 100000 in
theorem h0t {p ib bb eb : Nat} {s0 s1 s2 : Int} {a : Act} {w : World} {K : Act → World → Prop} {Q : Exit → Act → World → Prop} (hz : a.tmps.size = 169) (hdf : a.defers = []) (h0 : gt a 0 = .pointer (some ⟨p, 0, none⟩)) (h1 : gt a 1 = .pointer (some ⟨ib, 0, none⟩)) (h2 : gt a 2 = .pointer (some ⟨bb, 0, none⟩)) (h4 : gt a 4 = .pointer (some ⟨eb, 0, none⟩)) (h3 : gt a 3 = .agg #[.int .i64 s0, .int .i64 s1, .int .i64 s2])
    (hK : ∀ a' w', a'.tmps.size = 169 → a'.defers = [] → gt a' 0 = .pointer (some ⟨p, 0, none⟩) → gt a' 1 = .pointer (some ⟨ib, 0, none⟩) → gt a' 2 = .pointer (some ⟨bb, 0, none⟩) → gt a' 4 = .pointer (some ⟨eb, 0, none⟩) → Below w.heap.size w w' → K a' w') :
    b0.wp Tryd.prog (Exit.then K Q) a w := by
  have HKK := Lib.hid hK
  rw [lit169 a hz hdf, h0, h1, h2, h3, h4]
  clear hK h0 h1 h2 h3 h4 hz hdf
  conv => arg 2; whnf
  go_wp2_with fail
  exact HKK.out _ _ rfl rfl rfl rfl rfl rfl (below_alloc _ _)
set_option maxHeartbeats 32000000 in
set_option maxRecDepth 100000 in
theorem h1t {k : Kn} {L0 : List Value} {lo p ib bb eb : Nat} {a : Act} {w : World} {K : Act → World → Prop} {Q : Exit → Act → World → Prop} (hz : a.tmps.size = 169) (hdf : a.defers = []) (h0 : gt a 0 = .pointer (some ⟨p, 0, none⟩)) (h1 : gt a 1 = .pointer (some ⟨ib, 0, none⟩)) (h2 : gt a 2 = .pointer (some ⟨bb, 0, none⟩)) (h4 : gt a 4 = .pointer (some ⟨eb, 0, none⟩)) {pn : Int} (hC : Cb k p lo ib bb eb L0 pn) {w1 : World} {v1 : Value} {c u col d tb : Nat} {rest : List Int} {v : Value} (hS : Sb k p lo ib bb eb L0 w1 v1 c u col rest d tb v w)
    (hK : ∀ a' w', a'.tmps.size = 169 → a'.defers = [] → gt a' 0 = .pointer (some ⟨p, 0, none⟩) → gt a' 1 = .pointer (some ⟨ib, 0, none⟩) → gt a' 2 = .pointer (some ⟨bb, 0, none⟩) → gt a' 4 = .pointer (some ⟨eb, 0, none⟩) → Sb k p lo ib bb eb L0 w1 v1 c u col rest d tb v w' → K a' w') :
    b1.wp Tryd.prog (Exit.then K Q) a w := by
  obtain ⟨bp, bl, mi, ml, z, L, g1, h24, h25, h26, h19, m1, m2, m3, ho⟩ := hS.here.ex
  obtain ⟨c26, f26⟩ := at_ g1.pb 26 h26
  obtain ⟨c24, f24⟩ := at_ g1.pb 24 h24
  obtain ⟨c25, f25⟩ := at_ g1.pb 25 h25
  obtain ⟨e0, e1, e2, he⟩ := hS.be
  obtain ⟨c0, f0⟩ := at_ he 0 rfl
  obtain ⟨cc1, ff1⟩ := at_ he 1 rfl
  obtain ⟨cc2, ff2⟩ := at_ he 2 rfl
  have HN := Lib.hid (hS.noted hC (mi : Nat) (ml : Nat) (col : Nat))
  have HKK := Lib.hid hK
  rw [lit169 a hz hdf, h0, h1, h2, h4]
  clear hK h0 h1 h2 h4 hz hdf hS hC g1 h24 h25 h26 h19 ho he
  conv => arg 2; whnf
  go_wp2_with fail
  exact HKK.out _ _ rfl rfl rfl rfl rfl rfl HN.out
set_option maxHeartbeats 32000000 in
set_option maxRecDepth 100000 in
theorem h2t {p ib bb eb : Nat} {a : Act} {w : World} {K : Act → World → Prop} {Q : Exit → Act → World → Prop} (hz : a.tmps.size = 169) (hdf : a.defers = []) (h0 : gt a 0 = .pointer (some ⟨p, 0, none⟩)) (h1 : gt a 1 = .pointer (some ⟨ib, 0, none⟩)) (h2 : gt a 2 = .pointer (some ⟨bb, 0, none⟩)) (h4 : gt a 4 = .pointer (some ⟨eb, 0, none⟩))
    (hK : ∀ a', Fb p ib bb eb 0 a' → K a' w) :
    b2.wp Tryd.prog (Exit.then K Q) a w := by
  have HKK := Lib.hid hK
  rw [lit169 a hz hdf, h0, h1, h2, h4]
  clear hK h0 h1 h2 h4 hz hdf
  conv => arg 2; whnf
  go_wp2_with fail
  exact HKK.out _ ⟨rfl, rfl, rfl, rfl, rfl, rfl, rfl⟩
set_option maxHeartbeats 32000000 in
set_option maxRecDepth 100000 in
theorem sTa {k : Kn} {p lo ib bb eb : Nat} {pn : Int} {L0 : List Value} (hC : Cb k p lo ib bb eb L0 pn) {w1 : World} {v1 : Value} {c u col d tb mx : Nat} {rest : List Int} {v : Value} {a : Act} {w : World} {K : Act → World → Prop} {Q : Exit → Act → World → Prop} (hF : Fb p ib bb eb mx a) (hS : Sb k p lo ib bb eb L0 w1 v1 c u col rest d tb v w) (hmx : mx ≤ 1000000)
    (hK : ∀ a' w', Fb p ib bb eb mx a' → Sb k p lo ib bb eb L0 w1 v1 c u col rest (ind d mx pn) tb v w' → K a' w') :
    bTa.wp Tryd.prog (Exit.then K Q) a w := by
  obtain ⟨bp, bl, mi, ml, z, L, h1, h24, h25, h26, h19, m1, m2, m3, ho⟩ := hS.here.ex
  have hsm := h1.small
  obtain ⟨c16, f16⟩ := at_ h1.pb 16 h1.at16
  obtain ⟨c17, f17⟩ := at_ h1.pb 17 h1.at17
  obtain ⟨c18, f18⟩ := at_ h1.pb 18 h1.at18
  obtain ⟨c26, f26⟩ := at_ h1.pb 26 h26
  obtain ⟨ci, fi⟩ := at_ hS.bi 0 (v := .int .i64 (d : Nat)) rfl
  have j2 : (bl : Int) ≤ 541 := by omega
  have j0 : (0 : Int) ≤ (bp : Int) := by omega
  obtain ⟨c41, f41⟩ := at_ h1.pb 41 ((ho 41 (by unfold rdOff; omega) (by omega) (by omega) (by omega) (by omega)).trans hC.ind)
  obtain ⟨q, hq⟩ : ∃ q : Nat, pn + 1 = (q : Int) := ⟨(pn + 1).toNat, by have := hC.pn0; omega⟩
  have p2 : wrap64 (pn + 1) = (q : Int) := by rw [hq]; exact IntWalk.wrap64_in _ (by have := hC.pn1; omega)
  have hqt : (pn + 1).toNat = q := by omega
  have n1 : ¬ p = ib := fun e => hC.fi.1 (by rw [← e]; exact k.mp p)
  have n2 : ¬ ib = p := fun e => n1 e.symm
  by_cases hd : d = 0
  · have i0 : ((d : Int) == 0) = true := by simp [hd]
    by_cases hlt : (mx : Int) < (q : Int)
    · have e1 : decide ((mx : Int) < (q : Int)) = true := by simpa using hlt
      have hq1 : ¬ ((q : Int) < 1) := by omega
      have hq2 : decide ((q : Int) < 1) = false := by simp; omega
      rw [show ind d mx pn = q by unfold ind; rw [if_pos hd, hqt]; omega] at hK
      have HN := fun nq => Lib.hid (((hS.told hC mx).drewN nq).told hC q)
      have HKK := Lib.hid hK
      rw [lit169 a hF.size hF.defers, hF.s0, hF.s1, hF.s2, hF.s4, hF.s11]
      clear h1 h24 h25 h26 h19 ho hC hF hS hK hd hmx hq hqt
      conv => arg 2; whnf
      try simp only [List.append]
      go_wp2_with fail
      go_quiet (fail)
      go_wp2_with fail
      exact HKK.out _ _ ⟨rfl, rfl, rfl, rfl, rfl, rfl, rfl⟩ (HN _).out
    · have e1 : decide ((mx : Int) < (q : Int)) = false := by simpa using hlt
      by_cases hl1 : mx = 0
      · have hq2 : decide ((mx : Int) < 1) = true := by simp; omega
        have hq1 : (mx : Int) < 1 := by omega
        rw [show ind d mx pn = 1 by unfold ind; rw [if_pos hd, hqt]; omega] at hK
        have HN := fun nq => Lib.hid (((hS.told hC mx).drewN nq).told hC 1)
        have HKK := Lib.hid hK
        clear hl1
        rw [lit169 a hF.size hF.defers, hF.s0, hF.s1, hF.s2, hF.s4, hF.s11]
        clear h1 h24 h25 h26 h19 ho hC hF hS hK hd hmx hq hqt
        conv => arg 2; whnf
        try simp only [List.append]
        go_wp2_with fail
        go_quiet (fail)
        go_wp2_with fail
        exact HKK.out _ _ ⟨rfl, rfl, rfl, rfl, rfl, rfl, rfl⟩ (HN _).out
      · have hq2 : decide ((mx : Int) < 1) = false := by simp; omega
        have hq1 : ¬ ((mx : Int) < 1) := by omega
        rw [show ind d mx pn = mx by unfold ind; rw [if_pos hd, hqt]; omega] at hK
        have HN := fun nq => Lib.hid ((hS.told hC mx).drewN nq)
        have HKK := Lib.hid hK
        clear hl1
        rw [lit169 a hF.size hF.defers, hF.s0, hF.s1, hF.s2, hF.s4, hF.s11]
        clear h1 h24 h25 h26 h19 ho hC hF hS hK hd hmx hq hqt
        conv => arg 2; whnf
        try simp only [List.append]
        go_wp2_with fail
        go_quiet (fail)
        go_wp2_with fail
        exact HKK.out _ _ ⟨rfl, rfl, rfl, rfl, rfl, rfl, rfl⟩ (HN _).out
  · have i0 : ((d : Int) == 0) = false := by simp [hd]
    rw [show ind d mx pn = d by unfold ind; rw [if_neg hd]] at hK
    have HKK := Lib.hid hK
    have HS := Lib.hid hS
    rw [lit169 a hF.size hF.defers, hF.s0, hF.s1, hF.s2, hF.s4, hF.s11]
    clear h1 h24 h25 h26 h19 ho hC hF hS hK hd p2 hq hqt hmx
    conv => arg 2; whnf
    try simp only [List.append]
    go_wp2_with fail
    exact HKK.out _ _ ⟨rfl, rfl, rfl, rfl, rfl, rfl, rfl⟩ HS.out
set_option maxHeartbeats 32000000 in
set_option maxRecDepth 100000 in
theorem s24 {p ib bb eb : Nat} {mx : Nat} {a : Act} {w : World} {K : Act → World → Prop} {Q : Exit → Act → World → Prop} (hF : Fb p ib bb eb mx a)
    (hK : ∀ a', a'.defers = [] → gt a' 10 = .bool true → K a' w) :
    b24.wp Tryd.prog (Exit.then K Q) a w := by
  have HKK := Lib.hid hK
  rw [lit169 a hF.size hF.defers, hF.s0, hF.s1, hF.s2, hF.s4, hF.s11]
  clear hF hK
  conv => arg 2; whnf
  go_wp2_with fail
  exact HKK.out _ rfl rfl
end Go.Proofs.YtocbbekciphjgaaDoor.Bs
/- QfF -/
/- Indentation and breaks (yaml_parser_scan_block_scalar_breaks): the contract. Printed by genQf.py. -/
namespace Go.Proofs.YtocbbekciphjgaaDoor.Bs
open Go.RowKit Go.Proofs.YtocbbekciphjgaaDoor.Rdp Go.Proofs.YtocbbekciphjgaaDoor.Pa Go.Proofs.YtocbbekciphjgaaDoor.Sc Go.Proofs.YtocbbekciphjgaaDoor.Qd
set_option linter.unusedVariables false
set_option linter.unusedSimpArgs false
/-- In the inner loop. -/
def Ib (k : Kn) (p lo ib bb eb : Nat) (L0 : List Value) (w1 : World) (v1 : Value) (d n m k' : Nat) (q : List Int) (tb mx : Nat) (v : Value) (c u col : Nat) (rest : List Int) (a : Act) (w : World) : Prop :=
  Fb p ib bb eb mx a ∧ Sb k p lo ib bb eb L0 w1 v1 c u col rest d tb v w ∧ 1 ≤ u ∧ Brk d mx col rest n m k' q
theorem iround {k : Kn} {p lo ib bb eb : Nat} {pn : Int} {L0 : List Value} (hC : Cb k p lo ib bb eb L0 pn) {w1 : World} {v1 : Value} {d n m k' tb mx c u col : Nat} {q rest : List Int} {v : Value} {a : Act} {w : World} {K : Act → World → Prop} {Q : Exit → Act → World → Prop} (h : Ib k p lo ib bb eb L0 w1 v1 d n m k' q tb mx v c u col rest a w)
    (hK : ∀ a' w' c' u' col' rest', c < c' → c' ≤ k.T.length → Ib k p lo ib bb eb L0 w1 v1 d n m k' q tb mx v c' u' col' rest' a' w' → K a' w')
    (hX : ∀ a' w', spq d col (fb rest) 32 = false → Ib k p lo ib bb eb L0 w1 v1 d n m k' q tb mx v c u col rest a' w' → Q (.exit 2) a' w') :
    bCi.wp Tryd.prog (Exit.then K Q) a w := by
  obtain ⟨hF, hS, hu, hB⟩ := h
  rw [bCi_eq]
  refine wp_seq (sH hC hF hS hu ?_ ?_)
  · intro hq a1 w2 hF1 hS1
    obtain ⟨hd, h32⟩ := spq_yes hq
    obtain ⟨r, rfl⟩ := fb_inv hS1.here.ch h32 (by omega) (by omega)
    have hB1 : Brk d mx (col + 1) r n m k' q := by
      cases hB with
      | stop h1 h2 => exact absurd h32 (h2 hd).1
      | sp h1 h2 => exact h2
    obtain ⟨u0, rfl⟩ : ∃ u0, u = u0 + 1 := ⟨u - 1, by omega⟩
    refine wp_block ?_
    rw [then_block]
    refine wp_seq (s6 hC hF1 hS1 fun a2 w3 hF2 hS2 => ?_)
    rw [u8_1 (by omega)] at hS2
    refine uUI hC hF2 hS2 fun a3 w4 u4 hF3 hS3 hR3 hu3 => ?_
    exact hK a3 w4 _ _ _ _ (by simp only [List.length_cons, List.length_nil]; omega) hS3.here.fro.2 ⟨hF3, hS3, hu3, hB1⟩
  · intro hq a1 w2 hF1 hS1
    exact hX a1 w2 hq ⟨hF1, hS1, hu, hB⟩
theorem iloop {k : Kn} {p lo ib bb eb : Nat} {pn : Int} {L0 : List Value} (hC : Cb k p lo ib bb eb L0 pn) {w1 : World} {v1 : Value} {d n m k' tb mx c u col : Nat} {q rest : List Int} {v : Value} {a : Act} {w : World} {K : Act → World → Prop} {Q : Exit → Act → World → Prop} (h : Ib k p lo ib bb eb L0 w1 v1 d n m k' q tb mx v c u col rest a w)
    (hX : ∀ a' w' c' u' col' rest', c ≤ c' → spq d col' (fb rest') 32 = false → Ib k p lo ib bb eb L0 w1 v1 d n m k' q tb mx v c' u' col' rest' a' w' → K a' w') :
    (Code.block 2 (Code.loop bCi)).wp Tryd.prog (Exit.then K Q) a w := by
  refine wp_block ?_
  have hcl := h.2.1.here.fro.2
  refine wp_loop_ghost_k (fun g a2 w2 => ∃ c2 u2 col2 rest2, g = k.T.length - c2 ∧ c ≤ c2 ∧ c2 ≤ k.T.length ∧ Ib k p lo ib bb eb L0 w1 v1 d n m k' q tb mx v c2 u2 col2 rest2 a2 w2) (k.T.length - c) ⟨c, u, col, rest, rfl, Nat.le_refl _, hcl, h⟩ ?_
  rintro g a2 w2 ⟨c2, u2, col2, rest2, rfl, hc2, hcl2, h2⟩ J K2 hJ hK2
  refine iround hC h2 ?_ ?_
  · intro a3 w3 c3 u3 col3 rest3 hlt hcl3 h3
    exact hK2 _ _ (Handed.intro (k.T.length - c3) (by omega) (hJ _ _ _ ⟨c3, u3, col3, rest3, rfl, by omega, hcl3, h3⟩))
  · intro a3 w3 hq h3
    exact hX a3 w3 c2 u2 col2 rest2 hc2 hq h3
/-- At the head of the outer loop; tn: how many breaks there are in the end. -/
def Ob (k : Kn) (p lo ib bb eb : Nat) (L0 : List Value) (w1 : World) (v1 : Value) (d m k' : Nat) (q : List Int) (tn : Nat) (c : Nat) (a : Act) (w : World) : Prop :=
  ∃ u col rest mx tb n v, Fb p ib bb eb mx a ∧ Sb k p lo ib bb eb L0 w1 v1 c u col rest d tb v w ∧ Brk d mx col rest n m k' q ∧ tb + n = tn
theorem oround {k : Kn} {p lo ib bb eb : Nat} {pn : Int} {L0 : List Value} (hC : Cb k p lo ib bb eb L0 pn) {w1 : World} {v1 : Value} {d m k' tn c : Nat} {q : List Int} {a : Act} {w : World} {K : Act → World → Prop} {Q : Exit → Act → World → Prop} (h : Ob k p lo ib bb eb L0 w1 v1 d m k' q tn c a w)
    (hK : ∀ a' w' c', c < c' → c' ≤ k.T.length → Ob k p lo ib bb eb L0 w1 v1 d m k' q tn c' a' w' → K a' w')
    (hX : ∀ a' w' c' u' v', c ≤ c' → 1 ≤ u' → Fb p ib bb eb m a' → Sb k p lo ib bb eb L0 w1 v1 c' u' k' q d tn v' w' → Q (.exit 0) a' w') :
    (Code.block 1 bX).wp Tryd.prog (Exit.then K Q) a w := by
  obtain ⟨u, col, rest, mx, tb, n, v, hF, hS, hB, hn⟩ := h
  refine wp_block ?_
  rw [then_block, bX_eq]
  have hq0 : ∀ a w, Q (.exit 0) a w → Exit.inBlock 1 (Exit.then K Q) (.exit 0) a w := fun _ _ h => h
  refine wp_seq (uU1 hC hF hS fun a1 w2 u1 hF1 hS1 hR1 hu1 => ?_)
  refine wp_seq (iloop hC ⟨hF1, hS1, hu1, hB⟩ ?_)
  rintro a2 w3 c2 u2 col2 rest2 hc2 hq2 ⟨hF2, hS2, hu2, hB2⟩
  refine wp_seq (sM hC hF2 hS2 fun a3 hF3 => ?_)
  have hcase : (n = 0 ∧ m = max mx col2 ∧ k' = col2 ∧ q = rest2 ∧ fb rest2 ≠ 10 ∧ ((d = 0 ∨ col2 < d) → fb rest2 ≠ 9)) ∨ ∃ n' r, n = n' + 1 ∧ rest2 = 10 :: r ∧ Brk d (max mx col2) 0 r n' m k' q := by
    cases hB2 with
    | stop h1 h2 => exact .inl ⟨rfl, rfl, rfl, rfl, h1, fun h => (h2 h).2⟩
    | sp h1 h2 =>
      rw [fb_small (by omega)] at hq2
      rcases h1 with h | h <;> simp [spq, h] at hq2
    | nl h => exact .inr ⟨_, _, rfl, rfl, h⟩
  rcases hcase with ⟨rfl, rfl, rfl, rfl, h10, h9⟩ | ⟨n', r, rfl, rfl, hB3⟩
  · refine wp_seq (sT hC hF3 hS2 hu2 (spq_no h9) fun a4 w4 hF4 hS4 => ?_)
    refine wp_seq (sB hC hF4 hS4 hu2 (fun h => absurd h h10) (fun _ a5 w5 hF5 hS5 => ?_))
    obtain rfl : tb = tn := hn
    exact hq0 _ _ (hX a5 w5 c2 u2 v hc2 hu2 hF5 hS5)
  · refine wp_seq (sT hC hF3 hS2 hu2 (spq_no (fun _ => by rw [fb_small (by omega)]; omega)) fun a4 w4 hF4 hS4 => ?_)
    refine wp_seq (sB hC hF4 hS4 hu2 (fun _ a5 w5 hF5 hS5 => ?_) (fun h => absurd (fb_small (by omega)) h))
    refine wp_seq (uU2 hC hF5 hS5 fun a6 w6 u6 hF6 hS6 hR6 hu6 => ?_)
    obtain ⟨u0, rfl⟩ : ∃ u0, u6 = u0 + 1 := ⟨u6 - 1, by omega⟩
    refine wp_seq (s16 hC hF6 hS6 fun a7 w7 v7 hF7 hS7 => ?_)
    refine s17 hC hF7 hS7 fun a8 w8 hF8 hS8 => ?_
    exact hK a8 w8 (c2 + 1) (by omega) hS8.here.fro.2 ⟨u0, 0, r, _, _, n', v7, hF8, hS8, hB3, by omega⟩
theorem oloop {k : Kn} {p lo ib bb eb : Nat} {pn : Int} {L0 : List Value} (hC : Cb k p lo ib bb eb L0 pn) {w1 : World} {v1 : Value} {d m k' tn c : Nat} {q : List Int} {a : Act} {w : World} {K : Act → World → Prop} {Q : Exit → Act → World → Prop} (hcl : c ≤ k.T.length) (h : Ob k p lo ib bb eb L0 w1 v1 d m k' q tn c a w)
    (hX : ∀ a' w' c' u' v', c ≤ c' → 1 ≤ u' → Fb p ib bb eb m a' → Sb k p lo ib bb eb L0 w1 v1 c' u' k' q d tn v' w' → K a' w') :
    (Code.block 0 (Code.loop (Code.block 1 bX))).wp Tryd.prog (Exit.then K Q) a w := by
  refine wp_block ?_
  refine wp_loop_ghost_k (fun g a2 w2 => ∃ c2, g = k.T.length - c2 ∧ c ≤ c2 ∧ c2 ≤ k.T.length ∧ Ob k p lo ib bb eb L0 w1 v1 d m k' q tn c2 a2 w2) (k.T.length - c) ⟨c, rfl, Nat.le_refl _, hcl, h⟩ ?_
  rintro g a2 w2 ⟨c2, rfl, hc2, hcl2, h2⟩ J K2 hJ hK2
  refine oround hC h2 ?_ ?_
  · intro a3 w3 c3 hlt hcl3 h3
    exact hK2 _ _ (Handed.intro (k.T.length - c3) (by omega) (hJ _ _ _ ⟨c3, rfl, by omega, hcl3, h3⟩))
  · intro a3 w3 c3 u3 v3 hc3 hu3 hF3 hS3
    exact hX a3 w3 c3 u3 v3 (by omega) hu3 hF3 hS3
noncomputable def fr124 (p ib bb eb : Nat) (s : Value) : Act := { tmps := #[.pointer (some ⟨p, 0, none⟩), .pointer (some ⟨ib, 0, none⟩), .pointer (some ⟨bb, 0, none⟩), s, .pointer (some ⟨eb, 0, none⟩)] ++ Array.replicate (Tryd.f124.ntmps - 5) undef, defers := [] }
theorem ntmps124 : Tryd.f124.ntmps = 169 := by kernel_rfl
theorem fr124_size (p ib bb eb : Nat) (s : Value) : (fr124 p ib bb eb s).tmps.size = 169 := by
  unfold fr124
  rw [ntmps124]
  simp
theorem fr124_at (p ib bb eb : Nat) (s : Value) : gt (fr124 p ib bb eb s) 0 = .pointer (some ⟨p, 0, none⟩) ∧ gt (fr124 p ib bb eb s) 1 = .pointer (some ⟨ib, 0, none⟩) ∧ gt (fr124 p ib bb eb s) 2 = .pointer (some ⟨bb, 0, none⟩) ∧ gt (fr124 p ib bb eb s) 3 = s ∧ gt (fr124 p ib bb eb s) 4 = .pointer (some ⟨eb, 0, none⟩) := by
  unfold gt fr124
  rw [ntmps124]
  refine ⟨?_, ?_, ?_, ?_, ?_⟩ <;> simp [Array.getElem?_append]
theorem res124 : Tryd.f124.results = #[.tmp 10] := by kernel_rfl
theorem results124 (a : Act) (b : Bool) (h : gt a 10 = .bool b) (w : World) : (results Tryd.f124 a.tmps).run Tryd.prog w = .ok (.bool b) w := by
  have h6 : a.tmps.getD 10 undef = .bool b := h
  unfold results
  rw [res124]
  simp only [Array.mapM_eq_mapM_toList, List.mapM_cons, List.mapM_nil, h6]
  simp [h6]
theorem brk_max {d mx col n m k' : Nat} {r q : List Int} (h : Brk d mx col r n m k' q) : m ≤ max mx col + r.length := by
  induction h with
  | stop h1 h2 => omega
  | sp h1 h2 ih => simp only [List.length_cons]; omega
  | nl h ih => simp only [List.length_cons]; omega
theorem brk_us {d mx col n m k' : Nat} {r q : List Int} (h : Brk d mx col r n m k' q) : n + (us q).length ≤ (us r).length := by
  induction h with
  | stop h1 h2 => omega
  | sp h1 h2 ih =>
    rename_i r q
    show _ ≤ (u8 32 ++ us r).length
    rw [List.length_append]
    omega
  | nl h ih =>
    rename_i r q
    show _ ≤ (u8 10 ++ us r).length
    rw [List.length_append, u8_1 (by omega)]
    simp only [List.length_cons, List.length_nil]
    omega
theorem fro_short {T : List Int} {c : Nat} {l : List Int} (h : Fro T c l) : c + l.length ≤ T.length := by
  have h1 := h.len
  have : l.length ≤ (us l).length := by
    clear h h1
    induction l with
    | nil => exact Nat.zero_le _
    | cons x l ih =>
      have := u8_pos x
      show l.length + 1 ≤ (u8 x ++ us l).length
      rw [List.length_append]
      omega
  omega
/-- Indentation spaces and line breaks. -/
theorem brks_any {k : Kn} {p lo ib bb eb : Nat} {pn : Int} {L0 : List Value} (hC : Cb k p lo ib bb eb L0 pn) {d n m k' tb c u col : Nat} {q rest : List Int} {v : Value} {w : World} (s0 s1 s2 : Int) (hS : Sb k p lo ib bb eb L0 w v c u col rest d tb v w) (hB : Brk d 0 col rest n m k' q) :
    Calls Tryd.prog 124 #[.pointer (some ⟨p, 0, none⟩), .pointer (some ⟨ib, 0, none⟩), .pointer (some ⟨bb, 0, none⟩), .agg #[.int .i64 s0, .int .i64 s1, .int .i64 s2], .pointer (some ⟨eb, 0, none⟩)] w fun e w' => e = .returned (.bool true) ∧ ∃ c' u' v', c ≤ c' ∧ 1 ≤ u' ∧ Sb k p lo ib bb eb L0 w v c' u' k' q (ind d m pn) (tb + n) v' w' := by
  refine calls_of_wp (fn := Tryd.f124) (c := bA) Tryd.func124 bbody_eq ?_
  show bA.wp Tryd.prog _ (fr124 p ib bb eb _) w
  obtain ⟨g0, g1, g2, g3, g4⟩ := fr124_at p ib bb eb (.agg #[.int .i64 s0, .int .i64 s1, .int .i64 s2])
  rw [bA_eq]
  refine wp_seq (h0t (fr124_size p ib bb eb _) rfl g0 g1 g2 g4 g3 fun a1 w2 z1 d1 x0 x1 x2 x4 hb1 => ?_)
  have hk1 : Kp [] w w2 := Kp.of_below hb1
  obtain ⟨e0, e1, e2, he⟩ := hS.be
  have hS1 : Sb k p lo ib bb eb L0 w v c u col rest d tb v w2 := ⟨hS.here.far hk1 (by simp), hS.bi.kp hk1 (by simp), hS.bv.kp hk1 (by simp), ⟨e0, e1, e2, he.kp hk1 (by simp)⟩, hS.row.kp hk1 (by simp), hS.grew, hk1.mono (by simp), hS.lo1, hS.sz⟩
  refine wp_seq (h1t z1 d1 x0 x1 x2 x4 hC hS1 fun a2 w3 z2 d2 y0 y1 y2 y4 hS2 => ?_)
  refine wp_seq (h2t z2 d2 y0 y1 y2 y4 fun a3 hF3 => ?_)
  refine wp_seq (oloop hC hS2.here.fro.2 ⟨u, col, rest, 0, tb, n, v, hF3, hS2, hB, rfl⟩ fun a4 w4 c4 u4 v4 hc4 hu4 hF4 hS4 => ?_)
  have hm : m ≤ 1000000 := by
    have h1 := brk_max hB
    have h2 := fro_short hS.here.fro
    have h3 := hS.here.len
    obtain ⟨_, _, _, _, _, _, _, _, _, _, _, _, _, hcol, _⟩ := hS.here.ex
    omega
  refine wp_seq (sTa hC hF4 hS4 hm fun a5 w5 hF5 hS5 => ?_)
  refine wp_seq (s24 hF5 fun a6 d6 h6 => ?_)
  refine wp_ret ?_
  exact ⟨d6, _, results124 a6 true h6 w5, rfl, c4, u4, v4, hc4, hu4, hS5⟩
end Go.Proofs.YtocbbekciphjgaaDoor.Bs
