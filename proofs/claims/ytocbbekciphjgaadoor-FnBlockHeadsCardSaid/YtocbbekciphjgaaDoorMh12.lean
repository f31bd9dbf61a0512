/- QgC, QhA: parts of the proof, one behind another. -/
import Derived.Test.YtocbbekciphjgaaDoorMz1
import Derived.Test.YtocbbekciphjgaaDoorMh5
/- QgC -/
/- The header of a block scalar (yaml_parser_scan_block_scalar): what is done, the walks. Printed by genQg.py. -/
namespace Go.Proofs.YtocbbekciphjgaaDoor.Bs
open Go.RowKit Go.Proofs.YtocbbekciphjgaaDoor.Rdp Go.Proofs.YtocbbekciphjgaaDoor.Pa Go.Proofs.YtocbbekciphjgaaDoor.Sc Go.Proofs.YtocbbekciphjgaaDoor.Qd
set_option linter.unusedVariables false
set_option linter.unusedSimpArgs false
set_option maxHeartbeats 32000000 in
set_option maxRecDepth 100000 in
theorem u11 {k : Kn} {p t mk : Nat} {s0 s1 s2 : Int} {L0 : List Value} {w1 : World} (hC : Ch1 k p mk s0 s1 s2 L0 w1) {li : Bool} {ch : Int} {inc c u col : Nat} {rest : List Int} {a : Act} {w : World} {K : Act → World → Prop} {Q : Exit → Act → World → Prop} (hF : Fh p t mk li ch inc a) (hS : Sh k p L0 w1 c u col rest w)
    (hK : ∀ a' w' u', Fh p t mk li ch inc a' → Sh k p L0 w1 c u' col rest w' → Rdy k.T c 1 u' → 1 ≤ u' → K a' w') :
    gU11.wp Tryd.prog (Exit.then K Q) a w := by
  have hub0 : Calls Tryd.prog 101 #[.pointer (some ⟨p, 0, none⟩), .int .i64 1] w fun e w' => e = .returned (.bool true) ∧ Filled k p L0 c 1 col rest w w' := hS.here.ub hC.round 1 (by omega) (by omega) (by have := hS.kp.size; have := hC.two; omega)
  have hub := Lib.hid hub0
  clear hub0
  have HS := Lib.hid hS
  have HKK := Lib.hid hK
  obtain ⟨bp, bl, mi, ml, z, L, h1, h24, h25, h26, h19, m1, m2, m3, ho⟩ := hS.here.ex
  have hsm := h1.small
  obtain ⟨c16, f16⟩ := at_ h1.pb 16 h1.at16
  obtain ⟨c17, f17⟩ := at_ h1.pb 17 h1.at17
  obtain ⟨c18, f18⟩ := at_ h1.pb 18 h1.at18
  obtain ⟨c26, f26⟩ := at_ h1.pb 26 h26
  have j2 : (bl : Int) ≤ 541 := by omega
  have j0 : (0 : Int) ≤ (bp : Int) := by omega
  by_cases hlt : u < 1
  · have e1 : decide ((u : Int) < 1) = true := by simp; omega
    have e2 : (u : Int) < 1 := by omega
    rw [lit464 a hF.size hF.defers, hF.s0, hF.s1, hF.s2, hF.s7, hF.s8, hF.s9]
    clear h1 h24 h25 h26 h19 ho hC hF hS hK
    conv => arg 2; whnf
    try simp only [List.append]
    go_wp2_with fail
    refine hub.out.mono ?_
    rintro e w' ⟨rfl, ⟨u', hr, hu', hat⟩, hkp, hsz⟩
    have hst := HS.out.turn hkp hat
    have HST := Lib.hid hst
    have HR := Lib.hid hr
    clear hst hr hat hkp hsz hub HS c16 f16 c17 f17 c18 f18 c26 f26
    go_wp2_with fail
    exact HKK.out _ _ u' ⟨rfl, rfl, rfl, rfl, rfl, rfl, rfl, rfl⟩ (HST.out.drewN 0) HR.out hu'
  · have e1 : decide ((u : Int) < 1) = false := by simp; omega
    have e2 : ¬ ((u : Int) < 1) := by omega
    rw [lit464 a hF.size hF.defers, hF.s0, hF.s1, hF.s2, hF.s7, hF.s8, hF.s9]
    clear h1 h24 h25 h26 h19 ho hC hF hS hK hub
    conv => arg 2; whnf
    try simp only [List.append]
    go_wp2_with fail
    exact HKK.out _ _ u ⟨rfl, rfl, rfl, rfl, rfl, rfl, rfl, rfl⟩ HS.out (.inl (by omega)) (by omega)
set_option maxHeartbeats 32000000 in
set_option maxRecDepth 100000 in
theorem u25 {k : Kn} {p t mk : Nat} {s0 s1 s2 : Int} {L0 : List Value} {w1 : World} (hC : Ch1 k p mk s0 s1 s2 L0 w1) {li : Bool} {ch : Int} {inc c u col : Nat} {rest : List Int} {a : Act} {w : World} {K : Act → World → Prop} {Q : Exit → Act → World → Prop} (hF : Fh p t mk li ch inc a) (hS : Sh k p L0 w1 c u col rest w)
    (hK : ∀ a' w' u', Fh p t mk li ch inc a' → Sh k p L0 w1 c u' col rest w' → Rdy k.T c 1 u' → 1 ≤ u' → K a' w') :
    gU25.wp Tryd.prog (Exit.then K Q) a w := by
  have hub0 : Calls Tryd.prog 101 #[.pointer (some ⟨p, 0, none⟩), .int .i64 1] w fun e w' => e = .returned (.bool true) ∧ Filled k p L0 c 1 col rest w w' := hS.here.ub hC.round 1 (by omega) (by omega) (by have := hS.kp.size; have := hC.two; omega)
  have hub := Lib.hid hub0
  clear hub0
  have HS := Lib.hid hS
  have HKK := Lib.hid hK
  obtain ⟨bp, bl, mi, ml, z, L, h1, h24, h25, h26, h19, m1, m2, m3, ho⟩ := hS.here.ex
  have hsm := h1.small
  obtain ⟨c16, f16⟩ := at_ h1.pb 16 h1.at16
  obtain ⟨c17, f17⟩ := at_ h1.pb 17 h1.at17
  obtain ⟨c18, f18⟩ := at_ h1.pb 18 h1.at18
  obtain ⟨c26, f26⟩ := at_ h1.pb 26 h26
  have j2 : (bl : Int) ≤ 541 := by omega
  have j0 : (0 : Int) ≤ (bp : Int) := by omega
  by_cases hlt : u < 1
  · have e1 : decide ((u : Int) < 1) = true := by simp; omega
    have e2 : (u : Int) < 1 := by omega
    rw [lit464 a hF.size hF.defers, hF.s0, hF.s1, hF.s2, hF.s7, hF.s8, hF.s9]
    clear h1 h24 h25 h26 h19 ho hC hF hS hK
    conv => arg 2; whnf
    try simp only [List.append]
    go_wp2_with fail
    refine hub.out.mono ?_
    rintro e w' ⟨rfl, ⟨u', hr, hu', hat⟩, hkp, hsz⟩
    have hst := HS.out.turn hkp hat
    have HST := Lib.hid hst
    have HR := Lib.hid hr
    clear hst hr hat hkp hsz hub HS c16 f16 c17 f17 c18 f18 c26 f26
    go_wp2_with fail
    exact HKK.out _ _ u' ⟨rfl, rfl, rfl, rfl, rfl, rfl, rfl, rfl⟩ (HST.out.drewN 0) HR.out hu'
  · have e1 : decide ((u : Int) < 1) = false := by simp; omega
    have e2 : ¬ ((u : Int) < 1) := by omega
    rw [lit464 a hF.size hF.defers, hF.s0, hF.s1, hF.s2, hF.s7, hF.s8, hF.s9]
    clear h1 h24 h25 h26 h19 ho hC hF hS hK hub
    conv => arg 2; whnf
    try simp only [List.append]
    go_wp2_with fail
    exact HKK.out _ _ u ⟨rfl, rfl, rfl, rfl, rfl, rfl, rfl, rfl⟩ HS.out (.inl (by omega)) (by omega)
set_option maxHeartbeats 32000000 in
set_option maxRecDepth 100000 in
theorem u32 {k : Kn} {p t mk : Nat} {s0 s1 s2 : Int} {L0 : List Value} {w1 : World} (hC : Ch1 k p mk s0 s1 s2 L0 w1) {li : Bool} {ch : Int} {inc c u col : Nat} {rest : List Int} {a : Act} {w : World} {K : Act → World → Prop} {Q : Exit → Act → World → Prop} (hF : Fh p t mk li ch inc a) (hS : Sh k p L0 w1 c u col rest w)
    (hK : ∀ a' w' u', Fh p t mk li ch inc a' → Sh k p L0 w1 c u' col rest w' → Rdy k.T c 1 u' → 1 ≤ u' → K a' w') :
    gU32.wp Tryd.prog (Exit.then K Q) a w := by
  have hub0 : Calls Tryd.prog 101 #[.pointer (some ⟨p, 0, none⟩), .int .i64 1] w fun e w' => e = .returned (.bool true) ∧ Filled k p L0 c 1 col rest w w' := hS.here.ub hC.round 1 (by omega) (by omega) (by have := hS.kp.size; have := hC.two; omega)
  have hub := Lib.hid hub0
  clear hub0
  have HS := Lib.hid hS
  have HKK := Lib.hid hK
  obtain ⟨bp, bl, mi, ml, z, L, h1, h24, h25, h26, h19, m1, m2, m3, ho⟩ := hS.here.ex
  have hsm := h1.small
  obtain ⟨c16, f16⟩ := at_ h1.pb 16 h1.at16
  obtain ⟨c17, f17⟩ := at_ h1.pb 17 h1.at17
  obtain ⟨c18, f18⟩ := at_ h1.pb 18 h1.at18
  obtain ⟨c26, f26⟩ := at_ h1.pb 26 h26
  have j2 : (bl : Int) ≤ 541 := by omega
  have j0 : (0 : Int) ≤ (bp : Int) := by omega
  by_cases hlt : u < 1
  · have e1 : decide ((u : Int) < 1) = true := by simp; omega
    have e2 : (u : Int) < 1 := by omega
    rw [lit464 a hF.size hF.defers, hF.s0, hF.s1, hF.s2, hF.s7, hF.s8, hF.s9]
    clear h1 h24 h25 h26 h19 ho hC hF hS hK
    conv => arg 2; whnf
    try simp only [List.append]
    go_wp2_with fail
    refine hub.out.mono ?_
    rintro e w' ⟨rfl, ⟨u', hr, hu', hat⟩, hkp, hsz⟩
    have hst := HS.out.turn hkp hat
    have HST := Lib.hid hst
    have HR := Lib.hid hr
    clear hst hr hat hkp hsz hub HS c16 f16 c17 f17 c18 f18 c26 f26
    go_wp2_with fail
    exact HKK.out _ _ u' ⟨rfl, rfl, rfl, rfl, rfl, rfl, rfl, rfl⟩ (HST.out.drewN 0) HR.out hu'
  · have e1 : decide ((u : Int) < 1) = false := by simp; omega
    have e2 : ¬ ((u : Int) < 1) := by omega
    rw [lit464 a hF.size hF.defers, hF.s0, hF.s1, hF.s2, hF.s7, hF.s8, hF.s9]
    clear h1 h24 h25 h26 h19 ho hC hF hS hK hub
    conv => arg 2; whnf
    try simp only [List.append]
    go_wp2_with fail
    exact HKK.out _ _ u ⟨rfl, rfl, rfl, rfl, rfl, rfl, rfl, rfl⟩ HS.out (.inl (by omega)) (by omega)
set_option maxHeartbeats 32000000 in
set_option maxRecDepth 100000 in
theorem u36 {k : Kn} {p t mk : Nat} {s0 s1 s2 : Int} {L0 : List Value} {w1 : World} (hC : Ch1 k p mk s0 s1 s2 L0 w1) {li : Bool} {ch : Int} {inc c u col : Nat} {rest : List Int} {a : Act} {w : World} {K : Act → World → Prop} {Q : Exit → Act → World → Prop} (hF : Fh p t mk li ch inc a) (hS : Sh k p L0 w1 c u col rest w)
    (hK : ∀ a' w' u', Fh p t mk li ch inc a' → Sh k p L0 w1 c u' col rest w' → Rdy k.T c 1 u' → 1 ≤ u' → K a' w') :
    gU36.wp Tryd.prog (Exit.then K Q) a w := by
  have hub0 : Calls Tryd.prog 101 #[.pointer (some ⟨p, 0, none⟩), .int .i64 1] w fun e w' => e = .returned (.bool true) ∧ Filled k p L0 c 1 col rest w w' := hS.here.ub hC.round 1 (by omega) (by omega) (by have := hS.kp.size; have := hC.two; omega)
  have hub := Lib.hid hub0
  clear hub0
  have HS := Lib.hid hS
  have HKK := Lib.hid hK
  obtain ⟨bp, bl, mi, ml, z, L, h1, h24, h25, h26, h19, m1, m2, m3, ho⟩ := hS.here.ex
  have hsm := h1.small
  obtain ⟨c16, f16⟩ := at_ h1.pb 16 h1.at16
  obtain ⟨c17, f17⟩ := at_ h1.pb 17 h1.at17
  obtain ⟨c18, f18⟩ := at_ h1.pb 18 h1.at18
  obtain ⟨c26, f26⟩ := at_ h1.pb 26 h26
  have j2 : (bl : Int) ≤ 541 := by omega
  have j0 : (0 : Int) ≤ (bp : Int) := by omega
  by_cases hlt : u < 1
  · have e1 : decide ((u : Int) < 1) = true := by simp; omega
    have e2 : (u : Int) < 1 := by omega
    rw [lit464 a hF.size hF.defers, hF.s0, hF.s1, hF.s2, hF.s7, hF.s8, hF.s9]
    clear h1 h24 h25 h26 h19 ho hC hF hS hK
    conv => arg 2; whnf
    try simp only [List.append]
    go_wp2_with fail
    refine hub.out.mono ?_
    rintro e w' ⟨rfl, ⟨u', hr, hu', hat⟩, hkp, hsz⟩
    have hst := HS.out.turn hkp hat
    have HST := Lib.hid hst
    have HR := Lib.hid hr
    clear hst hr hat hkp hsz hub HS c16 f16 c17 f17 c18 f18 c26 f26
    go_wp2_with fail
    exact HKK.out _ _ u' ⟨rfl, rfl, rfl, rfl, rfl, rfl, rfl, rfl⟩ (HST.out.drewN 0) HR.out hu'
  · have e1 : decide ((u : Int) < 1) = false := by simp; omega
    have e2 : ¬ ((u : Int) < 1) := by omega
    rw [lit464 a hF.size hF.defers, hF.s0, hF.s1, hF.s2, hF.s7, hF.s8, hF.s9]
    clear h1 h24 h25 h26 h19 ho hC hF hS hK hub
    conv => arg 2; whnf
    try simp only [List.append]
    go_wp2_with fail
    exact HKK.out _ _ u ⟨rfl, rfl, rfl, rfl, rfl, rfl, rfl, rfl⟩ HS.out (.inl (by omega)) (by omega)
set_option maxHeartbeats 32000000 in
set_option maxRecDepth 100000 in
theorem u43 {k : Kn} {p t mk : Nat} {s0 s1 s2 : Int} {L0 : List Value} {w1 : World} (hC : Ch1 k p mk s0 s1 s2 L0 w1) {li : Bool} {ch : Int} {inc c u col : Nat} {rest : List Int} {a : Act} {w : World} {K : Act → World → Prop} {Q : Exit → Act → World → Prop} (hF : Fh p t mk li ch inc a) (hS : Sh k p L0 w1 c u col rest w)
    (hK : ∀ a' w' u', Fh p t mk li ch inc a' → Sh k p L0 w1 c u' col rest w' → Rdy k.T c 1 u' → 1 ≤ u' → K a' w') :
    gU43.wp Tryd.prog (Exit.then K Q) a w := by
  have hub0 : Calls Tryd.prog 101 #[.pointer (some ⟨p, 0, none⟩), .int .i64 1] w fun e w' => e = .returned (.bool true) ∧ Filled k p L0 c 1 col rest w w' := hS.here.ub hC.round 1 (by omega) (by omega) (by have := hS.kp.size; have := hC.two; omega)
  have hub := Lib.hid hub0
  clear hub0
  have HS := Lib.hid hS
  have HKK := Lib.hid hK
  obtain ⟨bp, bl, mi, ml, z, L, h1, h24, h25, h26, h19, m1, m2, m3, ho⟩ := hS.here.ex
  have hsm := h1.small
  obtain ⟨c16, f16⟩ := at_ h1.pb 16 h1.at16
  obtain ⟨c17, f17⟩ := at_ h1.pb 17 h1.at17
  obtain ⟨c18, f18⟩ := at_ h1.pb 18 h1.at18
  obtain ⟨c26, f26⟩ := at_ h1.pb 26 h26
  have j2 : (bl : Int) ≤ 541 := by omega
  have j0 : (0 : Int) ≤ (bp : Int) := by omega
  by_cases hlt : u < 1
  · have e1 : decide ((u : Int) < 1) = true := by simp; omega
    have e2 : (u : Int) < 1 := by omega
    rw [lit464 a hF.size hF.defers, hF.s0, hF.s1, hF.s2, hF.s7, hF.s8, hF.s9]
    clear h1 h24 h25 h26 h19 ho hC hF hS hK
    conv => arg 2; whnf
    try simp only [List.append]
    go_wp2_with fail
    refine hub.out.mono ?_
    rintro e w' ⟨rfl, ⟨u', hr, hu', hat⟩, hkp, hsz⟩
    have hst := HS.out.turn hkp hat
    have HST := Lib.hid hst
    have HR := Lib.hid hr
    clear hst hr hat hkp hsz hub HS c16 f16 c17 f17 c18 f18 c26 f26
    go_wp2_with fail
    exact HKK.out _ _ u' ⟨rfl, rfl, rfl, rfl, rfl, rfl, rfl, rfl⟩ (HST.out.drewN 0) HR.out hu'
  · have e1 : decide ((u : Int) < 1) = false := by simp; omega
    have e2 : ¬ ((u : Int) < 1) := by omega
    rw [lit464 a hF.size hF.defers, hF.s0, hF.s1, hF.s2, hF.s7, hF.s8, hF.s9]
    clear h1 h24 h25 h26 h19 ho hC hF hS hK hub
    conv => arg 2; whnf
    try simp only [List.append]
    go_wp2_with fail
    exact HKK.out _ _ u ⟨rfl, rfl, rfl, rfl, rfl, rfl, rfl, rfl⟩ HS.out (.inl (by omega)) (by omega)
set_option maxHeartbeats 32000000 in
set_option maxRecDepth 100000 in
theorem u49 {k : Kn} {p t mk : Nat} {s0 s1 s2 : Int} {L0 : List Value} {w1 : World} (hC : Ch1 k p mk s0 s1 s2 L0 w1) {li : Bool} {ch : Int} {inc c u col : Nat} {rest : List Int} {a : Act} {w : World} {K : Act → World → Prop} {Q : Exit → Act → World → Prop} (hF : Fh p t mk li ch inc a) (hS : Sh k p L0 w1 c u col rest w)
    (hK : ∀ a' w' u', Fh p t mk li ch inc a' → Sh k p L0 w1 c u' col rest w' → Rdy k.T c 2 u' → 1 ≤ u' → K a' w') :
    gU49.wp Tryd.prog (Exit.then K Q) a w := by
  have hub0 : Calls Tryd.prog 101 #[.pointer (some ⟨p, 0, none⟩), .int .i64 2] w fun e w' => e = .returned (.bool true) ∧ Filled k p L0 c 2 col rest w w' := hS.here.ub hC.round 2 (by omega) (by omega) (by have := hS.kp.size; have := hC.two; omega)
  have hub := Lib.hid hub0
  clear hub0
  have HS := Lib.hid hS
  have HKK := Lib.hid hK
  obtain ⟨bp, bl, mi, ml, z, L, h1, h24, h25, h26, h19, m1, m2, m3, ho⟩ := hS.here.ex
  have hsm := h1.small
  obtain ⟨c16, f16⟩ := at_ h1.pb 16 h1.at16
  obtain ⟨c17, f17⟩ := at_ h1.pb 17 h1.at17
  obtain ⟨c18, f18⟩ := at_ h1.pb 18 h1.at18
  obtain ⟨c26, f26⟩ := at_ h1.pb 26 h26
  have j2 : (bl : Int) ≤ 541 := by omega
  have j0 : (0 : Int) ≤ (bp : Int) := by omega
  by_cases hlt : u < 2
  · have e1 : decide ((u : Int) < 2) = true := by simp; omega
    have e2 : (u : Int) < 2 := by omega
    rw [lit464 a hF.size hF.defers, hF.s0, hF.s1, hF.s2, hF.s7, hF.s8, hF.s9]
    clear h1 h24 h25 h26 h19 ho hC hF hS hK
    conv => arg 2; whnf
    try simp only [List.append]
    go_wp2_with fail
    refine hub.out.mono ?_
    rintro e w' ⟨rfl, ⟨u', hr, hu', hat⟩, hkp, hsz⟩
    have hst := HS.out.turn hkp hat
    have HST := Lib.hid hst
    have HR := Lib.hid hr
    clear hst hr hat hkp hsz hub HS c16 f16 c17 f17 c18 f18 c26 f26
    go_wp2_with fail
    exact HKK.out _ _ u' ⟨rfl, rfl, rfl, rfl, rfl, rfl, rfl, rfl⟩ (HST.out.drewN 0) HR.out hu'
  · have e1 : decide ((u : Int) < 2) = false := by simp; omega
    have e2 : ¬ ((u : Int) < 2) := by omega
    rw [lit464 a hF.size hF.defers, hF.s0, hF.s1, hF.s2, hF.s7, hF.s8, hF.s9]
    clear h1 h24 h25 h26 h19 ho hC hF hS hK hub
    conv => arg 2; whnf
    try simp only [List.append]
    go_wp2_with fail
    exact HKK.out _ _ u ⟨rfl, rfl, rfl, rfl, rfl, rfl, rfl, rfl⟩ HS.out (.inl (by omega)) (by omega)
set_option maxHeartbeats 32000000 in
set_option maxRecDepth 100000 in
theorem t8 {p t mk : Nat} {li : Bool} {ch : Int} {inc : Nat} {a : Act} {w : World} {K : Act → World → Prop} {Q : Exit → Act → World → Prop} (hF : Fh p t mk li ch inc a)
    (hK : ∀ a', Fh p t mk li (1) inc a' → K a' w) :
    g8.wp Tryd.prog (Exit.then K Q) a w := by
  have HKK := Lib.hid hK
  rw [lit464 a hF.size hF.defers, hF.s0, hF.s1, hF.s2, hF.s7, hF.s8, hF.s9]
  clear hF hK
  conv => arg 2; whnf
  go_wp2_with fail
  exact HKK.out _ ⟨rfl, rfl, rfl, rfl, rfl, rfl, rfl, rfl⟩
set_option maxHeartbeats 32000000 in
set_option maxRecDepth 100000 in
theorem t9 {p t mk : Nat} {li : Bool} {ch : Int} {inc : Nat} {a : Act} {w : World} {K : Act → World → Prop} {Q : Exit → Act → World → Prop} (hF : Fh p t mk li ch inc a)
    (hK : ∀ a', Fh p t mk li (-1) inc a' → K a' w) :
    g9.wp Tryd.prog (Exit.then K Q) a w := by
  have HKK := Lib.hid hK
  rw [lit464 a hF.size hF.defers, hF.s0, hF.s1, hF.s2, hF.s7, hF.s8, hF.s9]
  clear hF hK
  conv => arg 2; whnf
  go_wp2_with fail
  exact HKK.out _ ⟨rfl, rfl, rfl, rfl, rfl, rfl, rfl, rfl⟩
set_option maxHeartbeats 32000000 in
set_option maxRecDepth 100000 in
theorem t29 {p t mk : Nat} {li : Bool} {ch : Int} {inc : Nat} {a : Act} {w : World} {K : Act → World → Prop} {Q : Exit → Act → World → Prop} (hF : Fh p t mk li ch inc a)
    (hK : ∀ a', Fh p t mk li (1) inc a' → K a' w) :
    g29.wp Tryd.prog (Exit.then K Q) a w := by
  have HKK := Lib.hid hK
  rw [lit464 a hF.size hF.defers, hF.s0, hF.s1, hF.s2, hF.s7, hF.s8, hF.s9]
  clear hF hK
  conv => arg 2; whnf
  go_wp2_with fail
  exact HKK.out _ ⟨rfl, rfl, rfl, rfl, rfl, rfl, rfl, rfl⟩
set_option maxHeartbeats 32000000 in
set_option maxRecDepth 100000 in
theorem t30 {p t mk : Nat} {li : Bool} {ch : Int} {inc : Nat} {a : Act} {w : World} {K : Act → World → Prop} {Q : Exit → Act → World → Prop} (hF : Fh p t mk li ch inc a)
    (hK : ∀ a', Fh p t mk li (-1) inc a' → K a' w) :
    g30.wp Tryd.prog (Exit.then K Q) a w := by
  have HKK := Lib.hid hK
  rw [lit464 a hF.size hF.defers, hF.s0, hF.s1, hF.s2, hF.s7, hF.s8, hF.s9]
  clear hF hK
  conv => arg 2; whnf
  go_wp2_with fail
  exact HKK.out _ ⟨rfl, rfl, rfl, rfl, rfl, rfl, rfl, rfl⟩
set_option maxHeartbeats 32000000 in
set_option maxRecDepth 100000 in
theorem t10 {k : Kn} {p t mk : Nat} {s0 s1 s2 : Int} {L0 : List Value} {w1 : World} (hC : Ch1 k p mk s0 s1 s2 L0 w1) {li : Bool} {ch : Int} {inc c u col : Nat} {r : List Int} {a : Act} {w : World} {K : Act → World → Prop} {Q : Exit → Act → World → Prop} (hF : Fh p t mk li ch inc a) {x : Int} (hS : Sh k p L0 w1 c (u + 1) col (x :: r) w)
    (hK : ∀ a' w', Fh p t mk li ch inc a' → Sh k p L0 w1 (c + (u8 x).length) u (col + 1) r w' → K a' w') :
    g10.wp Tryd.prog (Exit.then K Q) a w := by
  have hsk := Lib.hid hS.here.skip
  have HS := Lib.hid hS
  have HKK := Lib.hid hK
  rw [lit464 a hF.size hF.defers, hF.s0, hF.s1, hF.s2, hF.s7, hF.s8, hF.s9]
  clear hC hF hS hK
  conv => arg 2; whnf
  go_wp2_with fail
  refine hsk.out.mono ?_
  rintro e w' ⟨rfl, hat, hkp, hsz⟩
  have HST := Lib.hid (HS.out.turn hkp hat)
  clear hat hkp hsz hsk HS
  go_wp2_with fail
  exact HKK.out _ _ ⟨rfl, rfl, rfl, rfl, rfl, rfl, rfl, rfl⟩ HST.out
set_option maxHeartbeats 32000000 in
set_option maxRecDepth 100000 in
theorem t18 {k : Kn} {p t mk : Nat} {s0 s1 s2 : Int} {L0 : List Value} {w1 : World} (hC : Ch1 k p mk s0 s1 s2 L0 w1) {li : Bool} {ch : Int} {inc c u col : Nat} {r : List Int} {a : Act} {w : World} {K : Act → World → Prop} {Q : Exit → Act → World → Prop} (hF : Fh p t mk li ch inc a) {x : Int} (hS : Sh k p L0 w1 c (u + 1) col (x :: r) w)
    (hK : ∀ a' w', Fh p t mk li ch inc a' → Sh k p L0 w1 (c + (u8 x).length) u (col + 1) r w' → K a' w') :
    g18.wp Tryd.prog (Exit.then K Q) a w := by
  have hsk := Lib.hid hS.here.skip
  have HS := Lib.hid hS
  have HKK := Lib.hid hK
  rw [lit464 a hF.size hF.defers, hF.s0, hF.s1, hF.s2, hF.s7, hF.s8, hF.s9]
  clear hC hF hS hK
  conv => arg 2; whnf
  go_wp2_with fail
  refine hsk.out.mono ?_
  rintro e w' ⟨rfl, hat, hkp, hsz⟩
  have HST := Lib.hid (HS.out.turn hkp hat)
  clear hat hkp hsz hsk HS
  go_wp2_with fail
  exact HKK.out _ _ ⟨rfl, rfl, rfl, rfl, rfl, rfl, rfl, rfl⟩ HST.out
set_option maxHeartbeats 32000000 in
set_option maxRecDepth 100000 in
theorem t24 {k : Kn} {p t mk : Nat} {s0 s1 s2 : Int} {L0 : List Value} {w1 : World} (hC : Ch1 k p mk s0 s1 s2 L0 w1) {li : Bool} {ch : Int} {inc c u col : Nat} {r : List Int} {a : Act} {w : World} {K : Act → World → Prop} {Q : Exit → Act → World → Prop} (hF : Fh p t mk li ch inc a) {x : Int} (hS : Sh k p L0 w1 c (u + 1) col (x :: r) w)
    (hK : ∀ a' w', Fh p t mk li ch inc a' → Sh k p L0 w1 (c + (u8 x).length) u (col + 1) r w' → K a' w') :
    g24.wp Tryd.prog (Exit.then K Q) a w := by
  have hsk := Lib.hid hS.here.skip
  have HS := Lib.hid hS
  have HKK := Lib.hid hK
  rw [lit464 a hF.size hF.defers, hF.s0, hF.s1, hF.s2, hF.s7, hF.s8, hF.s9]
  clear hC hF hS hK
  conv => arg 2; whnf
  go_wp2_with fail
  refine hsk.out.mono ?_
  rintro e w' ⟨rfl, hat, hkp, hsz⟩
  have HST := Lib.hid (HS.out.turn hkp hat)
  clear hat hkp hsz hsk HS
  go_wp2_with fail
  exact HKK.out _ _ ⟨rfl, rfl, rfl, rfl, rfl, rfl, rfl, rfl⟩ HST.out
set_option maxHeartbeats 32000000 in
set_option maxRecDepth 100000 in
theorem t31 {k : Kn} {p t mk : Nat} {s0 s1 s2 : Int} {L0 : List Value} {w1 : World} (hC : Ch1 k p mk s0 s1 s2 L0 w1) {li : Bool} {ch : Int} {inc c u col : Nat} {r : List Int} {a : Act} {w : World} {K : Act → World → Prop} {Q : Exit → Act → World → Prop} (hF : Fh p t mk li ch inc a) {x : Int} (hS : Sh k p L0 w1 c (u + 1) col (x :: r) w)
    (hK : ∀ a' w', Fh p t mk li ch inc a' → Sh k p L0 w1 (c + (u8 x).length) u (col + 1) r w' → K a' w') :
    g31.wp Tryd.prog (Exit.then K Q) a w := by
  have hsk := Lib.hid hS.here.skip
  have HS := Lib.hid hS
  have HKK := Lib.hid hK
  rw [lit464 a hF.size hF.defers, hF.s0, hF.s1, hF.s2, hF.s7, hF.s8, hF.s9]
  clear hC hF hS hK
  conv => arg 2; whnf
  go_wp2_with fail
  refine hsk.out.mono ?_
  rintro e w' ⟨rfl, hat, hkp, hsz⟩
  have HST := Lib.hid (HS.out.turn hkp hat)
  clear hat hkp hsz hsk HS
  go_wp2_with fail
  exact HKK.out _ _ ⟨rfl, rfl, rfl, rfl, rfl, rfl, rfl, rfl⟩ HST.out
set_option maxHeartbeats 32000000 in
set_option maxRecDepth 100000 in
theorem t35 {k : Kn} {p t mk : Nat} {s0 s1 s2 : Int} {L0 : List Value} {w1 : World} (hC : Ch1 k p mk s0 s1 s2 L0 w1) {li : Bool} {ch : Int} {inc c u col : Nat} {r : List Int} {a : Act} {w : World} {K : Act → World → Prop} {Q : Exit → Act → World → Prop} (hF : Fh p t mk li ch inc a) {x : Int} (hS : Sh k p L0 w1 c (u + 1) col (x :: r) w)
    (hK : ∀ a' w', Fh p t mk li ch inc a' → Sh k p L0 w1 (c + (u8 x).length) u (col + 1) r w' → K a' w') :
    g35.wp Tryd.prog (Exit.then K Q) a w := by
  have hsk := Lib.hid hS.here.skip
  have HS := Lib.hid hS
  have HKK := Lib.hid hK
  rw [lit464 a hF.size hF.defers, hF.s0, hF.s1, hF.s2, hF.s7, hF.s8, hF.s9]
  clear hC hF hS hK
  conv => arg 2; whnf
  go_wp2_with fail
  refine hsk.out.mono ?_
  rintro e w' ⟨rfl, hat, hkp, hsz⟩
  have HST := Lib.hid (HS.out.turn hkp hat)
  clear hat hkp hsz hsk HS
  go_wp2_with fail
  exact HKK.out _ _ ⟨rfl, rfl, rfl, rfl, rfl, rfl, rfl, rfl⟩ HST.out
set_option maxHeartbeats 32000000 in
set_option maxRecDepth 100000 in
theorem t42 {k : Kn} {p t mk : Nat} {s0 s1 s2 : Int} {L0 : List Value} {w1 : World} (hC : Ch1 k p mk s0 s1 s2 L0 w1) {li : Bool} {ch : Int} {inc c u col : Nat} {r : List Int} {a : Act} {w : World} {K : Act → World → Prop} {Q : Exit → Act → World → Prop} (hF : Fh p t mk li ch inc a) {x : Int} (hS : Sh k p L0 w1 c (u + 1) col (x :: r) w)
    (hK : ∀ a' w', Fh p t mk li ch inc a' → Sh k p L0 w1 (c + (u8 x).length) u (col + 1) r w' → K a' w') :
    g42.wp Tryd.prog (Exit.then K Q) a w := by
  have hsk := Lib.hid hS.here.skip
  have HS := Lib.hid hS
  have HKK := Lib.hid hK
  rw [lit464 a hF.size hF.defers, hF.s0, hF.s1, hF.s2, hF.s7, hF.s8, hF.s9]
  clear hC hF hS hK
  conv => arg 2; whnf
  go_wp2_with fail
  refine hsk.out.mono ?_
  rintro e w' ⟨rfl, hat, hkp, hsz⟩
  have HST := Lib.hid (HS.out.turn hkp hat)
  clear hat hkp hsz hsk HS
  go_wp2_with fail
  exact HKK.out _ _ ⟨rfl, rfl, rfl, rfl, rfl, rfl, rfl, rfl⟩ HST.out
set_option maxHeartbeats 32000000 in
set_option maxRecDepth 100000 in
theorem t51 {k : Kn} {p t mk : Nat} {s0 s1 s2 : Int} {L0 : List Value} {w1 : World} (hC : Ch1 k p mk s0 s1 s2 L0 w1) {li : Bool} {ch : Int} {inc c u col : Nat} {r : List Int} {a : Act} {w : World} {K : Act → World → Prop} {Q : Exit → Act → World → Prop} (hF : Fh p t mk li ch inc a) (hS : Sh k p L0 w1 c (u + 1) col (10 :: r) w)
    (hK : ∀ a' w', Fh p t mk li ch inc a' → Sh k p L0 w1 (c + 1) u 0 r w' → K a' w') :
    g51.wp Tryd.prog (Exit.then K Q) a w := by
  have hsk := Lib.hid hS.here.skip_line
  have HS := Lib.hid hS
  have HKK := Lib.hid hK
  rw [lit464 a hF.size hF.defers, hF.s0, hF.s1, hF.s2, hF.s7, hF.s8, hF.s9]
  clear hC hF hS hK
  conv => arg 2; whnf
  go_wp2_with fail
  refine hsk.out.mono ?_
  rintro e w' ⟨rfl, hat, hkp, hsz⟩
  have HST := Lib.hid (HS.out.turn hkp hat)
  clear hat hkp hsz hsk HS
  go_wp2_with fail
  exact HKK.out _ _ ⟨rfl, rfl, rfl, rfl, rfl, rfl, rfl, rfl⟩ HST.out
set_option maxHeartbeats 32000000 in
set_option maxRecDepth 100000 in
theorem t15 {k : Kn} {p t mk : Nat} {s0 s1 s2 : Int} {L0 : List Value} {w1 : World} (hC : Ch1 k p mk s0 s1 s2 L0 w1) {li : Bool} {ch : Int} {inc c u col : Nat} {rest : List Int} {a : Act} {w : World} {K : Act → World → Prop} {Q : Exit → Act → World → Prop} (hF : Fh p t mk li ch inc a) (hS : Sh k p L0 w1 c u col rest w)
    (hX : ∀ a' w', a'.defers = [] → gt a' 6 = .bool false → Er k p w1 w' → Q .ret a' w') :
    g15.wp Tryd.prog (Exit.then K Q) a w := by
  have hmk := hC.mark.kp hS.kp hC.own
  obtain ⟨q0, _⟩ := at_ hmk 0 (v := .int .i64 s0) rfl
  obtain ⟨q1, _⟩ := at_ hmk 1 (v := .int .i64 s1) rfl
  obtain ⟨q2, _⟩ := at_ hmk 2 (v := .int .i64 s2) rfl
  have HC := Lib.hid hC
  have HS := Lib.hid hS
  have HXX := Lib.hid hX
  rw [lit464 a hF.size hF.defers, hF.s0, hF.s1, hF.s2, hF.s7, hF.s8, hF.s9]
  clear hC hF hS hX hmk
  conv => arg 2; whnf
  go_wp2_with fail
  refine (At.fault HS.out.here HC.out.cells HS.out.kp _ _ s0 s1 s2).mono ?_
  rintro e w' ⟨rfl, her⟩
  have HER := Lib.hid her
  clear her
  go_wp2_with fail
  exact HXX.out _ _ rfl rfl HER.out
set_option maxHeartbeats 32000000 in
set_option maxRecDepth 100000 in
theorem t21 {k : Kn} {p t mk : Nat} {s0 s1 s2 : Int} {L0 : List Value} {w1 : World} (hC : Ch1 k p mk s0 s1 s2 L0 w1) {li : Bool} {ch : Int} {inc c u col : Nat} {rest : List Int} {a : Act} {w : World} {K : Act → World → Prop} {Q : Exit → Act → World → Prop} (hF : Fh p t mk li ch inc a) (hS : Sh k p L0 w1 c u col rest w)
    (hX : ∀ a' w', a'.defers = [] → gt a' 6 = .bool false → Er k p w1 w' → Q .ret a' w') :
    g21.wp Tryd.prog (Exit.then K Q) a w := by
  have hmk := hC.mark.kp hS.kp hC.own
  obtain ⟨q0, _⟩ := at_ hmk 0 (v := .int .i64 s0) rfl
  obtain ⟨q1, _⟩ := at_ hmk 1 (v := .int .i64 s1) rfl
  obtain ⟨q2, _⟩ := at_ hmk 2 (v := .int .i64 s2) rfl
  have HC := Lib.hid hC
  have HS := Lib.hid hS
  have HXX := Lib.hid hX
  rw [lit464 a hF.size hF.defers, hF.s0, hF.s1, hF.s2, hF.s7, hF.s8, hF.s9]
  clear hC hF hS hX hmk
  conv => arg 2; whnf
  go_wp2_with fail
  refine (At.fault HS.out.here HC.out.cells HS.out.kp _ _ s0 s1 s2).mono ?_
  rintro e w' ⟨rfl, her⟩
  have HER := Lib.hid her
  clear her
  go_wp2_with fail
  exact HXX.out _ _ rfl rfl HER.out
set_option maxHeartbeats 32000000 in
set_option maxRecDepth 100000 in
theorem t46 {k : Kn} {p t mk : Nat} {s0 s1 s2 : Int} {L0 : List Value} {w1 : World} (hC : Ch1 k p mk s0 s1 s2 L0 w1) {li : Bool} {ch : Int} {inc c u col : Nat} {rest : List Int} {a : Act} {w : World} {K : Act → World → Prop} {Q : Exit → Act → World → Prop} (hF : Fh p t mk li ch inc a) (hS : Sh k p L0 w1 c u col rest w)
    (hX : ∀ a' w', a'.defers = [] → gt a' 6 = .bool false → Er k p w1 w' → Q .ret a' w') :
    g46.wp Tryd.prog (Exit.then K Q) a w := by
  have hmk := hC.mark.kp hS.kp hC.own
  obtain ⟨q0, _⟩ := at_ hmk 0 (v := .int .i64 s0) rfl
  obtain ⟨q1, _⟩ := at_ hmk 1 (v := .int .i64 s1) rfl
  obtain ⟨q2, _⟩ := at_ hmk 2 (v := .int .i64 s2) rfl
  have HC := Lib.hid hC
  have HS := Lib.hid hS
  have HXX := Lib.hid hX
  rw [lit464 a hF.size hF.defers, hF.s0, hF.s1, hF.s2, hF.s7, hF.s8, hF.s9]
  clear hC hF hS hX hmk
  conv => arg 2; whnf
  go_wp2_with fail
  refine (At.fault HS.out.here HC.out.cells HS.out.kp _ _ s0 s1 s2).mono ?_
  rintro e w' ⟨rfl, her⟩
  have HER := Lib.hid her
  clear her
  go_wp2_with fail
  exact HXX.out _ _ rfl rfl HER.out
end Go.Proofs.YtocbbekciphjgaaDoor.Bs
/- QhA -/
/- A region that draws its order, by what each operation leaves, where what holds of the world may hang on the values that have been made. -/
namespace Go.Proofs.YtocbbekciphjgaaDoor.Sp
open Go Go.Proofs.YtocbbekciphjgaaDoor.Inv
set_option linter.unusedVariables false
structure Jv (ops : Array Oper) (S : Nat → Value → World → Prop) (I : (Nat → Bool) → (Nat → Value) → World → Prop) (a0 : Act) (l : Array Bool) (vs : Nat → Value) (a : Act) (w : World) : Prop where
  defers : a.defers = a0.defers
  size : a.tmps.size = a0.tmps.size
  world : I (fun k => l.getD k false) vs w
  out : ∀ t, (∀ k, dstOf ops k = some t → l.getD k true = false) → a.tmps.getD t undef = a0.tmps.getD t undef
  val : ∀ k, k < ops.size → l.getD k true = true → S k (vs k) w ∧ ∀ d, dstOf ops k = some d → a.tmps.getD d undef = vs k
  closed : ∀ k, k < ops.size → l.getD k true = true → ∀ j ∈ direct ops k, l.getD j false = true
theorem set_allv (l : Array Bool) (i k : Nat) (hi : i < l.size) : (l.setIfInBounds i true).getD k false = (k == i || l.getD k false) := by
  by_cases hk : k < l.size
  · rw [set_get _ _ _ _ hk]
    by_cases e : i = k
    · subst e; simp
    · have : (k == i) = false := by simpa using fun h => e h.symm
      rw [if_neg e, this, Bool.false_or]
  · have : (k == i) = false := by simp; omega
    rw [this, Bool.false_or, Array.getD_eq_getD_getElem?, Array.getD_eq_getD_getElem?, Array.getElem?_eq_none (by simp; omega), Array.getElem?_eq_none (by omega)]
section
variable {P : Program} {ops : Array Oper} {Q : Exit → Act → World → Prop}
/-- The values, with one more. -/
def upd (vs : Nat → Value) (i : Nat) (v : Value) (j : Nat) : Value := if j = i then v else vs j
theorem wp_region_specs_v {id : Nat} {a0 : Act} {w0 : World} (hm : P.follows .mixedOrders = true) (T : List (List Nat)) (n : Nat) (hT : okT ops T = true) (hk : backB ops = true) (hd : dstsOk ops = true) (hn : a0.tmps.size = n) (hf : fitsB ops n = true)
    (S : Nat → Value → World → Prop) (I : (Nat → Bool) → (Nat → Value) → World → Prop) (R : World → World → Prop) (h0 : I (fun _ => false) (fun _ => undef) w0.drew) (hmono : ∀ i v w w', R w w' → S i v w → S i v w')
    (hstep : ∀ i, i < ops.size → ∀ L vs a w, (∀ k, k < ops.size → L k = true → ∀ j, (T.getD k []).contains j = true → L j = true) → L i = false → Fr ops T S a0 i a w → (∀ j, (T.getD i []).contains j = true → L j = true ∧ S j (vs j) w ∧ ∀ d, dstOf ops j = some d → a.tmps.getD d undef = vs j) → I L vs w → wpOp P ops Q i (Post ops (fun k v w' => S k v w' ∧ I (fun j => j == k || L j) (upd vs k v) w') (fun _ => True) R i a w) a w)
    (hdone : ∀ (val : Nat → Value) (L : Nat → Bool) (w : World), (∀ k, k < ops.size → L k = true) → I L val w → (∀ i, i < ops.size → S i (val i) w) → Q .normal ⟨setAll val ops.toList 0 a0.tmps, a0.defers⟩ w) : (Code.region id ops true).wp P Q a0 w0 := by
  subst hn
  refine wp_region_inv hm (fun l a w => ∃ vs, Jv ops S I a0 l vs a w) ?_ ?_ ?_
  · refine ⟨fun _ => undef, rfl, rfl, by rw [show (fun k => (Array.replicate ops.size false).getD k false) = fun _ => false from funext fun k => by rw [Array.getD_eq_getD_getElem?]; by_cases h : k < ops.size; (rw [Array.getElem?_eq_getElem (by simpa using h)]; simp); (rw [Array.getElem?_eq_none (by simpa using h)]; rfl)]; exact h0, fun _ _ => rfl, fun k hk h => ?_, fun k hk h => ?_⟩
    all_goals
      rw [Array.getD_eq_getD_getElem?, Array.getElem?_eq_getElem (by simpa using hk)] at h
      simp at h
  · intro l a w hs hJ0 i hi
    obtain ⟨vs, hJ⟩ := hJ0
    obtain ⟨hlt, hnl⟩ := not_listed hi
    have hrd : ∀ j ∈ direct ops i, l.getD j false = true := by
      intro j hj
      have h := (mem_ready (md := .any) (ops := ops) (j := i) (listed := l)).1 hi
      unfold Region.ready at hi
      rw [List.mem_filter] at hi
      have h2 := hi.2
      rw [Bool.and_eq_true] at h2
      have h2 := h2.2
      unfold direct at hj
      cases e : ops[i]? with
      | none => rw [e] at hj; cases hj
      | some o =>
        rw [e] at hj h2
        simp only [Option.map_some, Option.getD_some] at hj h2
        rw [List.mem_filterMap] at hj
        obtain ⟨ed, h3, h4⟩ := hj
        have h5 : ed ∈ o.after := by simpa using h3
        rw [Array.all_eq_true_iff_forall_mem] at h2
        have h6 := h2 ed h5
        by_cases hb : Region.binds .any ed = true
        · rw [if_pos hb] at h4
          simp only [Option.some.injEq] at h4
          subst h4
          rw [hb] at h6
          simpa using h6
        · rw [if_neg hb] at h4
          cases h4
    have hall : ∀ j, (T.getD i []).contains j = true → l.getD j false = true := by
      intro j hj
      have hTi := hT
      unfold okT at hTi
      rw [List.all_eq_true] at hTi
      have h := hTi i (by simpa using hlt)
      rw [List.all_eq_true] at h
      have h := h j (by simpa using hj)
      rw [Bool.or_eq_true] at h
      rcases h with h | h
      · exact hrd j (by simpa using h)
      · rw [List.any_eq_true] at h
        obtain ⟨m, hm, h⟩ := h
        rw [Bool.and_eq_true] at h
        obtain ⟨h1, h2⟩ := h
        have h1 : m < i := by simpa using h1
        have hlm := hrd m hm
        refine table hT hs hJ.closed m (by omega) ?_ j h2
        rw [getD_tf (by omega)]
        exact hlm
    have hF : Fr ops T S a0 i a w := by
      refine ⟨hJ.defers, hJ.size, fun t ht => hJ.out t fun k hk => ?_, fun j hj => ?_⟩
      · have hk1 := dst_lt hk
        unfold outB at ht
        rw [List.all_eq_true] at ht
        have h := ht k (by simpa using hk1)
        rw [hk] at h
        simp only [BEq.rfl, Bool.not_true, Bool.false_or, Bool.or_eq_true, beq_iff_eq] at h
        cases e : l.getD k true with
        | false => rfl
        | true =>
          rcases h with h | h
          · subst h; rw [hnl] at e; cases e
          · have := table hT hs hJ.closed k hk1 e i h
            rw [← getD_tf (by omega), hnl] at this
            cases this
      · have h := hall j hj
        have hjl : j < ops.size := by
          by_cases hh : j < l.size
          · omega
          · rw [Array.getD_eq_getD_getElem?, Array.getElem?_eq_none (by omega)] at h
            cases h
        exact ⟨vs j, hJ.val j hjl (by rw [getD_tf (by omega)]; exact h)⟩
    have hV : ∀ j, (T.getD i []).contains j = true → l.getD j false = true ∧ S j (vs j) w ∧ ∀ d, dstOf ops j = some d → a.tmps.getD d undef = vs j := by
      intro j hj
      have h := hall j hj
      have hjl : j < ops.size := by
        by_cases hh : j < l.size
        · omega
        · rw [Array.getD_eq_getD_getElem?, Array.getElem?_eq_none (by omega)] at h
          cases h
      exact ⟨h, hJ.val j hjl (by rw [getD_tf (by omega)]; exact h)⟩
    refine wpOp_mono ?_ (hstep i hlt _ vs a w (fun k hk hlk j hj => table hT hs hJ.closed k hk (by rw [getD_tf (by omega)]; exact hlk) j hj) (by rw [← getD_tf (by omega)]; exact hnl) hF hV hJ.world)
    rintro a' w' ⟨v, rfl, -, hR, hS, hI⟩
    refine ⟨upd vs i v, by rw [put_defers]; exact hJ.defers, by rw [put_size]; exact hJ.size, by rw [show (fun k => (l.setIfInBounds i true).getD k false) = fun k => k == i || l.getD k false from funext fun k => set_allv l i k (by omega)]; exact hI, ?_, ?_, ?_⟩
    · intro t ht
      have hti : dstOf ops i ≠ some t := by
        intro h
        have := ht i h
        rw [set_get _ _ _ _ (by omega), if_pos rfl] at this
        cases this
      have h1 : (a.put (dstOf ops i) v).tmps.getD t undef = a.tmps.getD t undef := by
        cases e : dstOf ops i with
        | none => rfl
        | some d => exact getD_put_ne v (by intro hh; subst hh; exact hti e)
      rw [h1]
      refine hJ.out t fun k hk => ?_
      have := ht k hk
      have hk1 := dst_lt hk
      rw [set_get _ _ _ _ (by omega)] at this
      by_cases e : i = k
      · rw [if_pos e] at this; cases this
      · rw [if_neg e] at this; exact this
    · intro k hk hlk
      rw [set_get _ _ _ _ (by omega)] at hlk
      by_cases e : i = k
      · subst e
        have hu : upd vs i v i = v := by unfold upd; rw [if_pos rfl]
        rw [hu]
        refine ⟨hS, fun d hd' => ?_⟩
        rw [hd']
        exact getD_put_same v (by rw [hJ.size]; exact fits_lt hf hd')
      · rw [if_neg e] at hlk
        obtain ⟨h1, h2⟩ := hJ.val k hk hlk
        have hu : upd vs i v k = vs k := by unfold upd; rw [if_neg (Ne.symm e)]
        rw [hu]
        refine ⟨hmono _ _ _ _ hR h1, fun d hd' => ?_⟩
        rw [← h2 d hd']
        cases e' : dstOf ops i with
        | none => rfl
        | some d' => exact getD_put_ne v (by intro hh; subst hh; exact e (dst_ne hd e' hd'))
    · intro k hk hlk j hj
      have hjl : j = i ∨ l.getD j false = true := by
        rw [set_get _ _ _ _ (by omega)] at hlk
        by_cases e : i = k
        · subst e; exact .inr (hrd j hj)
        · rw [if_neg e] at hlk; exact .inr (hJ.closed k hk hlk j hj)
      rcases hjl with rfl | h
      · rw [set_get _ _ _ _ (by omega), if_pos rfl]
      · have hjs : j < l.size := by
          by_cases hh : j < l.size
          · exact hh
          · rw [Array.getD_eq_getD_getElem?, Array.getElem?_eq_none (by omega)] at h
            cases h
        rw [set_get _ _ _ _ hjs]
        by_cases e : i = j
        · rw [if_pos e]
        · rw [if_neg e]; exact h
  · intro l a w hs hJ0 hr
    obtain ⟨val, hJ⟩ := hJ0
    have hall : ∀ k, k < ops.size → l.getD k true = true := by
      intro k
      induction k using Nat.strongRecOn with
      | _ k ih =>
        intro hk1
        cases e : l.getD k true with
        | true => rfl
        | false =>
          exfalso
          exact ready_ne hk hs hr k hk1 e ih
    have hval : ∀ i, i < ops.size → S i (val i) w ∧ ∀ d, dstOf ops i = some d → a.tmps.getD d undef = val i := fun i hi => hJ.val i hi (hall i hi)
    have heq : a = ⟨setAll val ops.toList 0 a0.tmps, a0.defers⟩ := by
      have h1 : a.tmps = setAll val ops.toList 0 a0.tmps := by
        refine Array.ext (by rw [setAll_size]; exact hJ.size) fun x hx1 hx2 => ?_
        have hx : x < a0.tmps.size := by rw [← hJ.size]; exact hx1
        have h2 := setAll_get val a.tmps ops.toList 0 a0.tmps ?_ x hx ?_
        · rw [Array.getD_eq_getD_getElem?, Array.getD_eq_getD_getElem?, Array.getElem?_eq_getElem hx1, Array.getElem?_eq_getElem hx2] at h2
          exact h2.symm
        · intro k o d h3 h4
          have h5 : dstOf ops k = some d := by
            unfold dstOf
            rw [← Array.getElem?_toList, h3]
            exact h4
          rw [Nat.zero_add, (hval k (dst_lt h5)).2 d h5]
        · by_cases hh : ∃ k, dstOf ops k = some x
          · right
            obtain ⟨k, hk⟩ := hh
            unfold dstOf at hk
            cases e : ops[k]? with
            | none => rw [e] at hk; cases hk
            | some o => rw [e] at hk; exact ⟨k, o, by rw [Array.getElem?_toList]; exact e, hk⟩
          · left
            exact (hJ.out x fun k hk => absurd ⟨k, hk⟩ hh).symm
      cases a
      have h2 := hJ.defers
      simp only at h1 h2
      rw [h1, h2]
    rw [heq]
    exact hdone val _ w (fun k hk => by rw [← getD_tf (by omega)]; exact hall k hk) hJ.world fun i hi => (hval i hi).1
theorem region_specs_v {id : Nat} {a0 : Act} {w0 : World} (hm : P.follows .mixedOrders = true) (n : Nat) (hT : okT ops (mkT ops) = true) (hk : backB ops = true) (hd : dstsOk ops = true) (hn : a0.tmps.size = n) (hf : fitsB ops n = true)
    (S : Nat → Value → World → Prop) (I : (Nat → Bool) → (Nat → Value) → World → Prop) (R : World → World → Prop) (h0 : I (fun _ => false) (fun _ => undef) w0.drew) (hmono : ∀ i v w w', R w w' → S i v w → S i v w')
    (hstep : ∀ i, i < ops.size → ∀ L vs a w, (∀ k, k < ops.size → L k = true → ∀ j, ((mkT ops).getD k []).contains j = true → L j = true) → L i = false → Fr ops (mkT ops) S a0 i a w → (∀ j, ((mkT ops).getD i []).contains j = true → L j = true ∧ S j (vs j) w ∧ ∀ d, dstOf ops j = some d → a.tmps.getD d undef = vs j) → I L vs w → wpOp P ops Q i (Post ops (fun k v w' => S k v w' ∧ I (fun j => j == k || L j) (upd vs k v) w') (fun _ => True) R i a w) a w)
    (hdone : ∀ (val : Nat → Value) (L : Nat → Bool) (w : World), (∀ k, k < ops.size → L k = true) → I L val w → (∀ i, i < ops.size → S i (val i) w) → Q .normal ⟨setAll val ops.toList 0 a0.tmps, a0.defers⟩ w) : (Code.region id ops true).wp P Q a0 w0 :=
  wp_region_specs_v hm (mkT ops) n hT hk hd hn hf S I R h0 hmono hstep hdone
end
end Go.Proofs.YtocbbekciphjgaaDoor.Sp
