/- QdJ, QdN, QdO: parts of the proof, one behind another. -/
import Derived.Test.YtocbbekciphjgaaDoorMz21
/- QdJ -/
/- The buffer is filled where it must be (yaml_parser_scan_flow_scalar): the walks. Printed by genQdJ.py. -/
namespace Go.Proofs.YtocbbekciphjgaaDoor.Qd
open Go.RowKit Go.Proofs.YtocbbekciphjgaaDoor.Rdp Go.Proofs.YtocbbekciphjgaaDoor.Pa Go.Proofs.YtocbbekciphjgaaDoor.Sc
set_option linter.unusedVariables false
set_option linter.unusedSimpArgs false
/-- The text ends with a line feed. -/
def Lfd (rest : List Int) : Prop := rest = [] ∨ ∃ r, rest = r ++ [10]
theorem Lfd.tail {x : Int} {r : List Int} (h : Lfd (x :: r)) : Lfd r := by
  rcases h with h | ⟨l, h⟩
  · cases h
  · cases l with
    | nil => obtain rfl := (List.cons.inj h).2; exact .inl rfl
    | cons y l => exact .inr ⟨l, (List.cons.inj h).2⟩
theorem Lfd.last {x : Int} (h : Lfd [x]) : x = 10 := by
  rcases h with h | ⟨l, h⟩
  · cases h
  · cases l with
    | nil => exact (List.cons.inj h).1
    | cons y l => have := (List.cons.inj h).2; simp at this
theorem fb_inv {rest : List Int} (hc : ∀ x ∈ rest, Ch x) {y : Int} (h : fb rest = y) (h0 : 0 < y) (h1 : y < 128) : ∃ r, rest = y :: r := by
  cases rest with
  | nil => have : (0 : Int) = y := h; omega
  | cons x r =>
    have hx := hc x (by simp)
    by_cases hl : x < 128
    · rw [fb_small hl] at h
      subst h
      exact ⟨r, rfl⟩
    · have := fb_great (r := r) hx (by omega)
      omega
theorem fb_pos {rest : List Int} (hc : ∀ x ∈ rest, Ch x) : rest = [] ∨ 0 < fb rest := by
  cases rest with
  | nil => exact .inl rfl
  | cons x r =>
    have hx := hc x (by simp)
    refine .inr ?_
    by_cases hl : x < 128
    · rw [fb_small hl]
      have := hx.range
      omega
    · have := fb_great (r := r) hx (by omega)
      omega
/-- What is left by a fault. -/
def Er (k : Kn) (p : Nat) (w1 w' : World) : Prop := ∃ L', Bk w' p 120 L' ∧ Sc.Cells L' ∧ L'[0]? = some (.int .i64 3) ∧ Kp (k.bs p) w1 w'
theorem cells_of {L L0 : List Value} (hc : Sc.Cells L0) (hl : L.length = 52) (ho : ∀ j, rdOff j → j ≠ 19 → j ≠ 24 → j ≠ 25 → j ≠ 26 → L[j]? = L0[j]?) : Sc.Cells L := by
  have h := fun j (hj : j ≤ 10) => ho j (by unfold rdOff; omega) (by omega) (by omega) (by omega) (by omega)
  refine ⟨hl, ?_, ?_, ?_, ?_, ?_, ?_, ?_, ?_, ?_, ?_, ?_⟩
  · rw [h 0 (by omega)]; exact hc.c0
  · rw [h 1 (by omega)]; exact hc.c1
  · rw [h 2 (by omega)]; exact hc.c2
  · rw [h 3 (by omega)]; exact hc.c3
  · rw [h 4 (by omega)]; exact hc.c4
  · rw [h 5 (by omega)]; exact hc.c5
  · rw [h 6 (by omega)]; exact hc.c6
  · rw [h 7 (by omega)]; exact hc.c7
  · rw [h 8 (by omega)]; exact hc.c8
  · rw [h 9 (by omega)]; exact hc.c9
  · rw [h 10 (by omega)]; exact hc.c10
theorem At.fault {k : Kn} {p : Nat} {L0 : List Value} {c u col : Nat} {rest : List Int} {w1 w : World} (h : At k p L0 c u col rest w) (hc : Sc.Cells L0) (hk : Kp (k.bs p) w1 w) (x m : ByteArray) (s0 s1 s2 : Int) :
    Calls Tryd.prog 105 #[.pointer (some ⟨p, 0, none⟩), .string x, .agg #[.int .i64 s0, .int .i64 s1, .int .i64 s2], .string m] w fun e w' => e = .returned (.bool false) ∧ Er k p w1 w' := by
  obtain ⟨bp, bl, mi, ml, z, L, h1, h24, h25, h26, h19, m1, m2, m3, ho⟩ := h.ex
  refine (fault_any p x m s0 s1 s2 _ _ _ L w h1.pb (cells_of hc h1.plen ho) h24 h25 h26).mono ?_
  rintro e w' ⟨rfl, L', g1, g2, g3, g4⟩
  exact ⟨rfl, L', g1, g2, g3, hk.trans (g4.mono (by simp; exact k.mp p))⟩
set_option maxHeartbeats 32000000 in
set_option maxRecDepth 100000 in
theorem uU {k : Kn} {p t mk lo : Nat} {s0 s1 s2 : Int} {L0 : List Value} {w1 : World} (hC : Cx k p mk lo s0 s1 s2 L0 w1) {sg : Bool} {c u col : Nat} {rest s lb tb ws : List Int} {sv lbv tbv wsv : Value} {lbr : Bool} {a : Act} {w : World} {K : Act → World → Prop} {Q : Exit → Act → World → Prop} (hF : Fm sg p t mk sv lbv tbv wsv lbr a) (hS : St k p lo L0 w1 c u col rest s lb tb ws sv lbv tbv wsv w)
    (hK : ∀ a' w' u', Fm sg p t mk sv lbv tbv wsv lbr a' → St k p lo L0 w1 c u' col rest s lb tb ws sv lbv tbv wsv w' → Rdy k.T c 4 u' → 1 ≤ u' → K a' w') :
    cU.wp Tryd.prog (Exit.then K Q) a w := by
  have hub0 : Calls Tryd.prog 101 #[.pointer (some ⟨p, 0, none⟩), .int .i64 4] w fun e w' => e = .returned (.bool true) ∧ Filled k p L0 c 4 col rest w w' := hS.here.ub hC.round 4 (by omega) (by omega) (by have := hS.kp.size; have := hC.low; have := hC.two; omega)
  have hub := Lib.hid hub0
  clear hub0
  have HS := Lib.hid hS
  have HKK := Lib.hid hK
  have HFAR := Lib.hid hC.far
  obtain ⟨bp, bl, mi, ml, z, L, h1, h24, h25, h26, h19, m1, m2, m3, ho⟩ := hS.here.ex
  have hsm := h1.small
  obtain ⟨c16, f16⟩ := at_ h1.pb 16 h1.at16
  obtain ⟨c17, f17⟩ := at_ h1.pb 17 h1.at17
  obtain ⟨c18, f18⟩ := at_ h1.pb 18 h1.at18
  obtain ⟨c26, f26⟩ := at_ h1.pb 26 h26
  have j2 : (bl : Int) ≤ 541 := by omega
  have j0 : (0 : Int) ≤ (bp : Int) := by omega
  by_cases hlt : u < 4
  · have e1 : decide ((u : Int) < 4) = true := by simp; omega
    have e2 : (u : Int) < 4 := by omega
    rw [lit717 a hF.size hF.defers, hF.s0, hF.s1, hF.s2, hF.s7, hF.s8, hF.s9, hF.s10, hF.s11, hF.s12]
    clear h1 h24 h25 h26 h19 ho hC hF hS hK
    conv => arg 2; whnf
    try simp only [List.append]
    go_wp2_with fail
    refine hub.out.mono ?_
    rintro e w' ⟨rfl, ⟨u', hr, hu', hat⟩, hkp, hsz⟩
    have hst := HS.out.turn HFAR.out hkp hat (Nat.le_refl _)
    have HST := Lib.hid hst
    have HR := Lib.hid hr
    clear hst hr hat hkp hsz hub HS c16 f16 c17 f17 c18 f18 c26 f26
    go_wp2_with fail
    exact HKK.out _ _ u' ⟨rfl, rfl, rfl, rfl, rfl, rfl, rfl, rfl, rfl, rfl, rfl⟩ (HST.out.drewN 0) HR.out hu'
  · have e1 : decide ((u : Int) < 4) = false := by simp; omega
    have e2 : ¬ ((u : Int) < 4) := by omega
    rw [lit717 a hF.size hF.defers, hF.s0, hF.s1, hF.s2, hF.s7, hF.s8, hF.s9, hF.s10, hF.s11, hF.s12]
    clear h1 h24 h25 h26 h19 ho hC hF hS hK hub
    conv => arg 2; whnf
    try simp only [List.append]
    go_wp2_with fail
    exact HKK.out _ _ u ⟨rfl, rfl, rfl, rfl, rfl, rfl, rfl, rfl, rfl, rfl, rfl⟩ HS.out (.inl (by omega)) (by omega)
set_option maxHeartbeats 32000000 in
set_option maxRecDepth 100000 in
theorem uV {k : Kn} {p t mk lo : Nat} {s0 s1 s2 : Int} {L0 : List Value} {w1 : World} (hC : Cx k p mk lo s0 s1 s2 L0 w1) {sg : Bool} {c u col : Nat} {rest s lb tb ws : List Int} {sv lbv tbv wsv : Value} {lbr : Bool} {a : Act} {w : World} {K : Act → World → Prop} {Q : Exit → Act → World → Prop} (hF : Fm sg p t mk sv lbv tbv wsv lbr a) (hS : St k p lo L0 w1 c u col rest s lb tb ws sv lbv tbv wsv w)
    (hK : ∀ a' w' u', Fm sg p t mk sv lbv tbv wsv lbr a' → St k p lo L0 w1 c u' col rest s lb tb ws sv lbv tbv wsv w' → Rdy k.T c 1 u' → 1 ≤ u' → K a' w') :
    cV.wp Tryd.prog (Exit.then K Q) a w := by
  have hub0 : Calls Tryd.prog 101 #[.pointer (some ⟨p, 0, none⟩), .int .i64 1] w fun e w' => e = .returned (.bool true) ∧ Filled k p L0 c 1 col rest w w' := hS.here.ub hC.round 1 (by omega) (by omega) (by have := hS.kp.size; have := hC.low; have := hC.two; omega)
  have hub := Lib.hid hub0
  clear hub0
  have HS := Lib.hid hS
  have HKK := Lib.hid hK
  have HFAR := Lib.hid hC.far
  obtain ⟨bp, bl, mi, ml, z, L, h1, h24, h25, h26, h19, m1, m2, m3, ho⟩ := hS.here.ex
  have hsm := h1.small
  obtain ⟨c16, f16⟩ := at_ h1.pb 16 h1.at16
  obtain ⟨c17, f17⟩ := at_ h1.pb 17 h1.at17
  obtain ⟨c18, f18⟩ := at_ h1.pb 18 h1.at18
  obtain ⟨c26, f26⟩ := at_ h1.pb 26 h26
  have j2 : (bl : Int) ≤ 541 := by omega
  have j0 : (0 : Int) ≤ (bp : Int) := by omega
  by_cases hlt : u < 1
  · have e1 : decide ((u : Int) < 1) = true := by simp; omega
    have e2 : (u : Int) < 1 := by omega
    rw [lit717 a hF.size hF.defers, hF.s0, hF.s1, hF.s2, hF.s7, hF.s8, hF.s9, hF.s10, hF.s11, hF.s12]
    clear h1 h24 h25 h26 h19 ho hC hF hS hK
    conv => arg 2; whnf
    try simp only [List.append]
    go_wp2_with fail
    refine hub.out.mono ?_
    rintro e w' ⟨rfl, ⟨u', hr, hu', hat⟩, hkp, hsz⟩
    have hst := HS.out.turn HFAR.out hkp hat (Nat.le_refl _)
    have HST := Lib.hid hst
    have HR := Lib.hid hr
    clear hst hr hat hkp hsz hub HS c16 f16 c17 f17 c18 f18 c26 f26
    go_wp2_with fail
    exact HKK.out _ _ u' ⟨rfl, rfl, rfl, rfl, rfl, rfl, rfl, rfl, rfl, rfl, rfl⟩ (HST.out.drewN 0) HR.out hu'
  · have e1 : decide ((u : Int) < 1) = false := by simp; omega
    have e2 : ¬ ((u : Int) < 1) := by omega
    rw [lit717 a hF.size hF.defers, hF.s0, hF.s1, hF.s2, hF.s7, hF.s8, hF.s9, hF.s10, hF.s11, hF.s12]
    clear h1 h24 h25 h26 h19 ho hC hF hS hK hub
    conv => arg 2; whnf
    try simp only [List.append]
    go_wp2_with fail
    exact HKK.out _ _ u ⟨rfl, rfl, rfl, rfl, rfl, rfl, rfl, rfl, rfl, rfl, rfl⟩ HS.out (.inl (by omega)) (by omega)
set_option maxHeartbeats 32000000 in
set_option maxRecDepth 100000 in
theorem uW {k : Kn} {p t mk lo : Nat} {s0 s1 s2 : Int} {L0 : List Value} {w1 : World} (hC : Cx k p mk lo s0 s1 s2 L0 w1) {sg : Bool} {c u col : Nat} {rest s lb tb ws : List Int} {sv lbv tbv wsv : Value} {lbr : Bool} {a : Act} {w : World} {K : Act → World → Prop} {Q : Exit → Act → World → Prop} (hF : Fm sg p t mk sv lbv tbv wsv lbr a) (hS : St k p lo L0 w1 c u col rest s lb tb ws sv lbv tbv wsv w)
    (hK : ∀ a' w' u', Fm sg p t mk sv lbv tbv wsv lbr a' → St k p lo L0 w1 c u' col rest s lb tb ws sv lbv tbv wsv w' → Rdy k.T c 2 u' → 1 ≤ u' → K a' w') :
    cW.wp Tryd.prog (Exit.then K Q) a w := by
  have hub0 : Calls Tryd.prog 101 #[.pointer (some ⟨p, 0, none⟩), .int .i64 2] w fun e w' => e = .returned (.bool true) ∧ Filled k p L0 c 2 col rest w w' := hS.here.ub hC.round 2 (by omega) (by omega) (by have := hS.kp.size; have := hC.low; have := hC.two; omega)
  have hub := Lib.hid hub0
  clear hub0
  have HS := Lib.hid hS
  have HKK := Lib.hid hK
  have HFAR := Lib.hid hC.far
  obtain ⟨bp, bl, mi, ml, z, L, h1, h24, h25, h26, h19, m1, m2, m3, ho⟩ := hS.here.ex
  have hsm := h1.small
  obtain ⟨c16, f16⟩ := at_ h1.pb 16 h1.at16
  obtain ⟨c17, f17⟩ := at_ h1.pb 17 h1.at17
  obtain ⟨c18, f18⟩ := at_ h1.pb 18 h1.at18
  obtain ⟨c26, f26⟩ := at_ h1.pb 26 h26
  have j2 : (bl : Int) ≤ 541 := by omega
  have j0 : (0 : Int) ≤ (bp : Int) := by omega
  by_cases hlt : u < 2
  · have e1 : decide ((u : Int) < 2) = true := by simp; omega
    have e2 : (u : Int) < 2 := by omega
    rw [lit717 a hF.size hF.defers, hF.s0, hF.s1, hF.s2, hF.s7, hF.s8, hF.s9, hF.s10, hF.s11, hF.s12]
    clear h1 h24 h25 h26 h19 ho hC hF hS hK
    conv => arg 2; whnf
    try simp only [List.append]
    go_wp2_with fail
    refine hub.out.mono ?_
    rintro e w' ⟨rfl, ⟨u', hr, hu', hat⟩, hkp, hsz⟩
    have hst := HS.out.turn HFAR.out hkp hat (Nat.le_refl _)
    have HST := Lib.hid hst
    have HR := Lib.hid hr
    clear hst hr hat hkp hsz hub HS c16 f16 c17 f17 c18 f18 c26 f26
    go_wp2_with fail
    exact HKK.out _ _ u' ⟨rfl, rfl, rfl, rfl, rfl, rfl, rfl, rfl, rfl, rfl, rfl⟩ (HST.out.drewN 0) HR.out hu'
  · have e1 : decide ((u : Int) < 2) = false := by simp; omega
    have e2 : ¬ ((u : Int) < 2) := by omega
    rw [lit717 a hF.size hF.defers, hF.s0, hF.s1, hF.s2, hF.s7, hF.s8, hF.s9, hF.s10, hF.s11, hF.s12]
    clear h1 h24 h25 h26 h19 ho hC hF hS hK hub
    conv => arg 2; whnf
    try simp only [List.append]
    go_wp2_with fail
    exact HKK.out _ _ u ⟨rfl, rfl, rfl, rfl, rfl, rfl, rfl, rfl, rfl, rfl, rfl⟩ HS.out (.inl (by omega)) (by omega)
end Go.Proofs.YtocbbekciphjgaaDoor.Qd
/- QdN -/
/- Characters are passed over and read (yaml_parser_scan_flow_scalar): the walks. Printed by genQdJ.py. -/
namespace Go.Proofs.YtocbbekciphjgaaDoor.Qd
open Go.RowKit Go.Proofs.YtocbbekciphjgaaDoor.Rdp Go.Proofs.YtocbbekciphjgaaDoor.Pa Go.Proofs.YtocbbekciphjgaaDoor.Sc
set_option linter.unusedVariables false
set_option linter.unusedSimpArgs false
noncomputable def cB3 : Code := part [0] cBrk
noncomputable def c23 : Code := part [1, 0] cBrk
noncomputable def c24 : Code := part [1, 1, 0] cBrk
noncomputable def c25 : Code := part [1, 1, 1, 0] cBrk
noncomputable def c15 : Code := part [0] cTwo
noncomputable def c16 : Code := part [1, 0] cTwo
noncomputable def c17 : Code := part [1, 1] cTwo
noncomputable def cDh : Code := part [0] cD
noncomputable def c120 : Code := part [1, 0, 0, 0] cD
noncomputable def cDw : Code := part [1, 0, 0, 1, 0] cD
noncomputable def cDb : Code := part [1, 0, 0, 1, 1] cD
noncomputable def cDv : Code := part [1, 0, 1] cD
noncomputable def c121 : Code := part [0] cDw
noncomputable def c122 : Code := part [1, 0] cDw
noncomputable def c123 : Code := part [1, 1] cDw
noncomputable def c124 : Code := part [0] cDb
noncomputable def c126 : Code := part [1, 0] cDb
noncomputable def cDf : Code := part [1, 1, 0] cDb
noncomputable def c130 : Code := part [1, 1, 1] cDb
noncomputable def c127 : Code := part [0] cDf
noncomputable def c128 : Code := part [1, 0] cDf
noncomputable def c129 : Code := part [1, 1] cDf
theorem cBrk_eq : cBrk = .seq cB3 (.seq c23 (.seq c24 (.seq c25 (.exit 2)))) := by kernel_rfl
theorem cTwo_eq : cTwo = .seq c15 (.seq c16 c17) := by kernel_rfl
theorem cD_eq : cD = .seq cDh (.block 10 (.seq (.seq c120 (.cond (.tmp 628) cDw cDb)) cDv)) := by kernel_rfl
theorem cDw_eq : cDw = .seq c121 (.cond (.tmp 630) c122 c123) := by kernel_rfl
theorem cDb_eq : cDb = .seq c124 (.seq c126 (.cond (.tmp 647) cDf c130)) := by kernel_rfl
theorem cDf_eq : cDf = .seq c127 (.seq c128 c129) := by kernel_rfl
set_option maxHeartbeats 32000000 in
set_option maxRecDepth 100000 in
theorem uB3 {k : Kn} {p t mk lo : Nat} {s0 s1 s2 : Int} {L0 : List Value} {w1 : World} (hC : Cx k p mk lo s0 s1 s2 L0 w1) {sg : Bool} {c u col : Nat} {rest s lb tb ws : List Int} {sv lbv tbv wsv : Value} {lbr : Bool} {a : Act} {w : World} {K : Act → World → Prop} {Q : Exit → Act → World → Prop} (hF : Fm sg p t mk sv lbv tbv wsv lbr a) (hS : St k p lo L0 w1 c u col rest s lb tb ws sv lbv tbv wsv w)
    (hK : ∀ a' w' u', Fm sg p t mk sv lbv tbv wsv lbr a' → St k p lo L0 w1 c u' col rest s lb tb ws sv lbv tbv wsv w' → Rdy k.T c 3 u' → 1 ≤ u' → K a' w') :
    cB3.wp Tryd.prog (Exit.then K Q) a w := by
  have hub0 : Calls Tryd.prog 101 #[.pointer (some ⟨p, 0, none⟩), .int .i64 3] w fun e w' => e = .returned (.bool true) ∧ Filled k p L0 c 3 col rest w w' := hS.here.ub hC.round 3 (by omega) (by omega) (by have := hS.kp.size; have := hC.low; have := hC.two; omega)
  have hub := Lib.hid hub0
  clear hub0
  have HS := Lib.hid hS
  have HKK := Lib.hid hK
  have HFAR := Lib.hid hC.far
  obtain ⟨bp, bl, mi, ml, z, L, h1, h24, h25, h26, h19, m1, m2, m3, ho⟩ := hS.here.ex
  have hsm := h1.small
  obtain ⟨c16, f16⟩ := at_ h1.pb 16 h1.at16
  obtain ⟨c17, f17⟩ := at_ h1.pb 17 h1.at17
  obtain ⟨c18, f18⟩ := at_ h1.pb 18 h1.at18
  obtain ⟨c26, f26⟩ := at_ h1.pb 26 h26
  have j2 : (bl : Int) ≤ 541 := by omega
  have j0 : (0 : Int) ≤ (bp : Int) := by omega
  by_cases hlt : u < 3
  · have e1 : decide ((u : Int) < 3) = true := by simp; omega
    have e2 : (u : Int) < 3 := by omega
    rw [lit717 a hF.size hF.defers, hF.s0, hF.s1, hF.s2, hF.s7, hF.s8, hF.s9, hF.s10, hF.s11, hF.s12]
    clear h1 h24 h25 h26 h19 ho hC hF hS hK
    conv => arg 2; whnf
    try simp only [List.append]
    go_wp2_with fail
    refine hub.out.mono ?_
    rintro e w' ⟨rfl, ⟨u', hr, hu', hat⟩, hkp, hsz⟩
    have hst := HS.out.turn HFAR.out hkp hat (Nat.le_refl _)
    have HST := Lib.hid hst
    have HR := Lib.hid hr
    clear hst hr hat hkp hsz hub HS c16 f16 c17 f17 c18 f18 c26 f26
    go_wp2_with fail
    exact HKK.out _ _ u' ⟨rfl, rfl, rfl, rfl, rfl, rfl, rfl, rfl, rfl, rfl, rfl⟩ (HST.out.drewN 0) HR.out hu'
  · have e1 : decide ((u : Int) < 3) = false := by simp; omega
    have e2 : ¬ ((u : Int) < 3) := by omega
    rw [lit717 a hF.size hF.defers, hF.s0, hF.s1, hF.s2, hF.s7, hF.s8, hF.s9, hF.s10, hF.s11, hF.s12]
    clear h1 h24 h25 h26 h19 ho hC hF hS hK hub
    conv => arg 2; whnf
    try simp only [List.append]
    go_wp2_with fail
    exact HKK.out _ _ u ⟨rfl, rfl, rfl, rfl, rfl, rfl, rfl, rfl, rfl, rfl, rfl⟩ HS.out (.inl (by omega)) (by omega)
set_option maxHeartbeats 32000000 in
set_option maxRecDepth 100000 in
theorem s23 {k : Kn} {p t mk lo : Nat} {s0 s1 s2 : Int} {L0 : List Value} {w1 : World} (hC : Cx k p mk lo s0 s1 s2 L0 w1) {sg : Bool} {c u col : Nat} {r s lb tb ws : List Int} {sv lbv tbv wsv : Value} {lbr : Bool} {a : Act} {w : World} {K : Act → World → Prop} {Q : Exit → Act → World → Prop} (hF : Fm sg p t mk sv lbv tbv wsv lbr a) {x : Int} (hS : St k p lo L0 w1 c (u + 1) col (x :: r) s lb tb ws sv lbv tbv wsv w)
    (hK : ∀ a' w', Fm sg p t mk sv lbv tbv wsv lbr a' → St k p lo L0 w1 (c + (u8 x).length) u (col + 1) r s lb tb ws sv lbv tbv wsv w' → K a' w') :
    c23.wp Tryd.prog (Exit.then K Q) a w := by
  have hsk := Lib.hid hS.here.skip
  have HS := Lib.hid hS
  have HKK := Lib.hid hK
  have HFAR := Lib.hid hC.far
  rw [lit717 a hF.size hF.defers, hF.s0, hF.s1, hF.s2, hF.s7, hF.s8, hF.s9, hF.s10, hF.s11, hF.s12]
  clear hC hF hS hK
  conv => arg 2; whnf
  go_wp2_with fail
  refine hsk.out.mono ?_
  rintro e w' ⟨rfl, hat, hkp, hsz⟩
  have HST := Lib.hid (HS.out.turn HFAR.out hkp hat (by omega))
  clear hat hkp hsz hsk HS
  go_wp2_with fail
  exact HKK.out _ _ ⟨rfl, rfl, rfl, rfl, rfl, rfl, rfl, rfl, rfl, rfl, rfl⟩ HST.out
set_option maxHeartbeats 32000000 in
set_option maxRecDepth 100000 in
theorem s24 {k : Kn} {p t mk lo : Nat} {s0 s1 s2 : Int} {L0 : List Value} {w1 : World} (hC : Cx k p mk lo s0 s1 s2 L0 w1) {sg : Bool} {c u col : Nat} {r s lb tb ws : List Int} {sv lbv tbv wsv : Value} {lbr : Bool} {a : Act} {w : World} {K : Act → World → Prop} {Q : Exit → Act → World → Prop} (hF : Fm sg p t mk sv lbv tbv wsv lbr a) (hS : St k p lo L0 w1 c (u + 1) col (10 :: r) s lb tb ws sv lbv tbv wsv w)
    (hK : ∀ a' w', Fm sg p t mk sv lbv tbv wsv lbr a' → St k p lo L0 w1 (c + 1) u 0 r s lb tb ws sv lbv tbv wsv w' → K a' w') :
    c24.wp Tryd.prog (Exit.then K Q) a w := by
  have hsk := Lib.hid hS.here.skip_line
  have HS := Lib.hid hS
  have HKK := Lib.hid hK
  have HFAR := Lib.hid hC.far
  rw [lit717 a hF.size hF.defers, hF.s0, hF.s1, hF.s2, hF.s7, hF.s8, hF.s9, hF.s10, hF.s11, hF.s12]
  clear hC hF hS hK
  conv => arg 2; whnf
  go_wp2_with fail
  refine hsk.out.mono ?_
  rintro e w' ⟨rfl, hat, hkp, hsz⟩
  have HST := Lib.hid (HS.out.turn HFAR.out hkp hat (by omega))
  clear hat hkp hsz hsk HS
  go_wp2_with fail
  exact HKK.out _ _ ⟨rfl, rfl, rfl, rfl, rfl, rfl, rfl, rfl, rfl, rfl, rfl⟩ HST.out
set_option maxHeartbeats 32000000 in
set_option maxRecDepth 100000 in
theorem s25 {k : Kn} {p t mk lo : Nat} {s0 s1 s2 : Int} {L0 : List Value} {w1 : World} (hC : Cx k p mk lo s0 s1 s2 L0 w1) {sg : Bool} {sv lbv tbv wsv : Value} {lbr : Bool} {a : Act} {w : World} {K : Act → World → Prop} {Q : Exit → Act → World → Prop} (hF : Fm sg p t mk sv lbv tbv wsv lbr a)
    (hK : ∀ a', Fm sg p t mk sv lbv tbv wsv true a' → K a' w) :
    c25.wp Tryd.prog (Exit.then K Q) a w := by
  have HKK := Lib.hid hK
  rw [lit717 a hF.size hF.defers, hF.s0, hF.s1, hF.s2, hF.s7, hF.s8, hF.s9, hF.s10, hF.s11, hF.s12]
  clear hC hF hK
  conv => arg 2; whnf
  go_wp2_with fail
  exact HKK.out _ ⟨rfl, rfl, rfl, rfl, rfl, rfl, rfl, rfl, rfl, rfl, rfl⟩
set_option maxHeartbeats 32000000 in
set_option maxRecDepth 100000 in
theorem s16 {k : Kn} {p t mk lo : Nat} {s0 s1 s2 : Int} {L0 : List Value} {w1 : World} (hC : Cx k p mk lo s0 s1 s2 L0 w1) {sg : Bool} {c u col : Nat} {r s lb tb ws : List Int} {sv lbv tbv wsv : Value} {lbr : Bool} {a : Act} {w : World} {K : Act → World → Prop} {Q : Exit → Act → World → Prop} (hF : Fm sg p t mk sv lbv tbv wsv lbr a) {x : Int} (hS : St k p lo L0 w1 c (u + 1) col (x :: r) s lb tb ws sv lbv tbv wsv w)
    (hK : ∀ a' w', Fm sg p t mk sv lbv tbv wsv lbr a' → St k p lo L0 w1 (c + (u8 x).length) u (col + 1) r s lb tb ws sv lbv tbv wsv w' → K a' w') :
    c16.wp Tryd.prog (Exit.then K Q) a w := by
  have hsk := Lib.hid hS.here.skip
  have HS := Lib.hid hS
  have HKK := Lib.hid hK
  have HFAR := Lib.hid hC.far
  rw [lit717 a hF.size hF.defers, hF.s0, hF.s1, hF.s2, hF.s7, hF.s8, hF.s9, hF.s10, hF.s11, hF.s12]
  clear hC hF hS hK
  conv => arg 2; whnf
  go_wp2_with fail
  refine hsk.out.mono ?_
  rintro e w' ⟨rfl, hat, hkp, hsz⟩
  have HST := Lib.hid (HS.out.turn HFAR.out hkp hat (by omega))
  clear hat hkp hsz hsk HS
  go_wp2_with fail
  exact HKK.out _ _ ⟨rfl, rfl, rfl, rfl, rfl, rfl, rfl, rfl, rfl, rfl, rfl⟩ HST.out
set_option maxHeartbeats 32000000 in
set_option maxRecDepth 100000 in
theorem s17 {k : Kn} {p t mk lo : Nat} {s0 s1 s2 : Int} {L0 : List Value} {w1 : World} (hC : Cx k p mk lo s0 s1 s2 L0 w1) {sg : Bool} {c u col : Nat} {r s lb tb ws : List Int} {sv lbv tbv wsv : Value} {lbr : Bool} {a : Act} {w : World} {K : Act → World → Prop} {Q : Exit → Act → World → Prop} (hF : Fm sg p t mk sv lbv tbv wsv lbr a) {x : Int} (hS : St k p lo L0 w1 c (u + 1) col (x :: r) s lb tb ws sv lbv tbv wsv w)
    (hK : ∀ a' w', Fm sg p t mk sv lbv tbv wsv lbr a' → St k p lo L0 w1 (c + (u8 x).length) u (col + 1) r s lb tb ws sv lbv tbv wsv w' → K a' w') :
    c17.wp Tryd.prog (Exit.then K Q) a w := by
  have hsk := Lib.hid hS.here.skip
  have HS := Lib.hid hS
  have HKK := Lib.hid hK
  have HFAR := Lib.hid hC.far
  rw [lit717 a hF.size hF.defers, hF.s0, hF.s1, hF.s2, hF.s7, hF.s8, hF.s9, hF.s10, hF.s11, hF.s12]
  clear hC hF hS hK
  conv => arg 2; whnf
  go_wp2_with fail
  refine hsk.out.mono ?_
  rintro e w' ⟨rfl, hat, hkp, hsz⟩
  have HST := Lib.hid (HS.out.turn HFAR.out hkp hat (by omega))
  clear hat hkp hsz hsk HS
  go_wp2_with fail
  exact HKK.out _ _ ⟨rfl, rfl, rfl, rfl, rfl, rfl, rfl, rfl, rfl, rfl, rfl⟩ HST.out
set_option maxHeartbeats 32000000 in
set_option maxRecDepth 100000 in
theorem s111 {k : Kn} {p t mk lo : Nat} {s0 s1 s2 : Int} {L0 : List Value} {w1 : World} (hC : Cx k p mk lo s0 s1 s2 L0 w1) {sg : Bool} {c u col : Nat} {r s lb tb ws : List Int} {sv lbv tbv wsv : Value} {lbr : Bool} {a : Act} {w : World} {K : Act → World → Prop} {Q : Exit → Act → World → Prop} (hF : Fm sg p t mk sv lbv tbv wsv lbr a) {x : Int} (hS : St k p lo L0 w1 c (u + 1) col (x :: r) s lb tb ws sv lbv tbv wsv w)
    (hK : ∀ a' w' v', Fm sg p t mk v' lbv tbv wsv lbr a' → St k p lo L0 w1 (c + (u8 x).length) u (col + 1) r (s ++ u8 x) lb tb ws v' lbv tbv wsv w' → K a' w') :
    c111.wp Tryd.prog (Exit.then K Q) a w := by
  have hlo : lo ≤ w.heap.size := by have := hS.kp.size; have := hC.low; omega
  have hcl := hS.here.fro.2
  have hlen := hS.here.len
  have hsz := hS.sz
  have hsk := Lib.hid (hS.here.read hS.r8 (by omega) hlo hC.far)
  have HS := Lib.hid hS
  have HKK := Lib.hid hK
  have HFAR := Lib.hid hC.far
  have HLOW := Lib.hid hC.low
  rw [lit717 a hF.size hF.defers, hF.s0, hF.s1, hF.s2, hF.s7, hF.s8, hF.s9, hF.s10, hF.s11, hF.s12]
  clear hC hF hS hK
  conv => arg 2; whnf
  go_wp2_with fail
  refine hsk.out.mono ?_
  rintro e w' ⟨v', rfl, hat, hgv⟩
  have hpos := u8_pos x
  have HST := Lib.hid (HS.out.gave8 HFAR.out HLOW.out hgv hat (by simp only [List.length_append]; omega))
  clear hat hgv hsk HS
  go_wp2_with fail
  exact HKK.out _ _ v' ⟨rfl, rfl, rfl, rfl, rfl, rfl, rfl, rfl, rfl, rfl, rfl⟩ HST.out
end Go.Proofs.YtocbbekciphjgaaDoor.Qd
/- QdO -/
/- A byte is appended (yaml_parser_scan_flow_scalar): the walks. Printed by genQdJ.py. -/
namespace Go.Proofs.YtocbbekciphjgaaDoor.Qd
open Go.RowKit Go.Proofs.YtocbbekciphjgaaDoor.Rdp Go.Proofs.YtocbbekciphjgaaDoor.Pa Go.Proofs.YtocbbekciphjgaaDoor.Sc
set_option linter.unusedVariables false
set_option linter.unusedSimpArgs false
theorem add_gave {k : Kn} {p lo : Nat} {w w0 w' : World} {v v' : Value} {l l' : List Int} (hrow : Row lo w v l) (hb : Below w.heap.size w w0) (hrow' : Row lo w' v' l') (hgrow : w0.grownBy w' v.ownBlock) (hgr : Grew w0 v v') : Gave k p lo v v' l' w w' ∧ ∃ ps, Kp ps w w' ∧ ∀ b ∈ ps, v.ownBlock = some b := by
  have hps : ∃ ps, Kp ps w w' ∧ ∀ b ∈ ps, v.ownBlock = some b := by
    cases ho : v.ownBlock with
    | none => exact ⟨[], (Kp.of_below hb).trans (grown_kp hgrow (fun b hb' => by rw [ho] at hb'; cases hb')), by simp⟩
    | some g => exact ⟨[g], (Kp.of_below hb).trans (grown_kp hgrow (fun b hb' => by rw [ho] at hb'; cases hb'; simp)), by simp⟩
  obtain ⟨ps, h1, h2⟩ := hps
  refine ⟨⟨hrow', ?_, ps, h1, fun b hb => .inr (h2 b hb)⟩, ps, h1, h2⟩
  rcases hgr with e | ⟨b, e1, e2⟩
  · exact .inl e
  · exact .inr ⟨b, e1, Nat.le_trans hb.size e2⟩
theorem St.add8 {k : Kn} {p lo : Nat} {L0 : List Value} {w1 : World} {c u col : Nat} {rest s lb tb ws l' : List Int} {sv lbv tbv wsv v' : Value} {w w0 w' : World} (h : St k p lo L0 w1 c u col rest s lb tb ws sv lbv tbv wsv w) (hf : ∀ g, lo ≤ g → Far k p g) (hlo : w1.heap.size = lo) (hb : Below w.heap.size w w0)
    (hrow' : Row lo w' v' l') (hgrow : w0.grownBy w' sv.ownBlock) (hgr : Grew w0 sv v') (hsz : l'.length + lb.length + tb.length + ws.length ≤ 4 * c) : St k p lo L0 w1 c u col rest l' lb tb ws v' lbv tbv wsv w' := by
  obtain ⟨hg, ps, h1, h2⟩ := add_gave (k := k) (p := p) h.r8 hb hrow' hgrow hgr
  exact h.gave8 hf hlo hg (h.here.far h1 (fun b hb => hf b (h.r8.own b (h2 b hb)).1)) hsz
theorem below_alloc (w : World) (o : Obj) : Below w.heap.size w (w.alloc o) := (Below.refl _ _).alloc (Nat.le_refl _) _
set_option maxHeartbeats 32000000 in
set_option maxRecDepth 100000 in
theorem s15 {k : Kn} {p t mk lo : Nat} {s0 s1 s2 : Int} {L0 : List Value} {w1 : World} (hC : Cx k p mk lo s0 s1 s2 L0 w1) {sg : Bool} {c u col : Nat} {rest s lb tb ws : List Int} {sv lbv tbv wsv : Value} {lbr : Bool} {a : Act} {w : World} {K : Act → World → Prop} {Q : Exit → Act → World → Prop} (hF : Fm sg p t mk sv lbv tbv wsv lbr a) (hS : St k p lo L0 w1 c u col rest s lb tb ws sv lbv tbv wsv w) (hb : s.length + lb.length + tb.length + ws.length + 1 ≤ 4 * c)
    (hK : ∀ a' w' v', Fm sg p t mk v' lbv tbv wsv lbr a' → St k p lo L0 w1 c u col rest (s ++ [39]) lb tb ws v' lbv tbv wsv w' → K a' w') :
    c15.wp Tryd.prog (Exit.then K Q) a w := by
  have HS := Lib.hid hS
  have HB := Lib.hid hb
  have HKK := Lib.hid hK
  have HFAR := Lib.hid hC.far
  have HLOW := Lib.hid hC.low
  rw [lit717 a hF.size hF.defers, hF.s0, hF.s1, hF.s2, hF.s7, hF.s8, hF.s9, hF.s10, hF.s11, hF.s12]
  clear hC hF hS hK hb
  conv => arg 2; whnf
  go_wp2_with ((at_builtin; refine wpList_add rfl (.tmp 189) (.tmp 190) rfl lo _ s [39] rfl (World.ownsRow.alloc HS.out.r8 _) ⟨w.heap.size, 0, none⟩ 1 1 rfl rfl (fun j hj => by rw [Addr.add_lit]; obtain rfl : j = 0 := Nat.lt_one_iff.1 hj; simp [World.cell?_alloc_new]) (by have := HS.out.sz; have := HS.out.here.fro.2; have := HS.out.here.len; simp only [List.length_cons, List.length_nil]; omega) (Nat.le_trans (Nat.le_trans (Nat.le_of_eq HLOW.out.symm) HS.out.kp.size) (by simp)) ?_))
  intro v0 w0' hrow' hgrow hgr
  have HS0 := Lib.hid (HS.out.add8 HFAR.out HLOW.out (below_alloc _ _) hrow' hgrow hgr (by have := HB.out; simp only [List.length_append, List.length_cons, List.length_nil]; omega))
  clear hrow' hgrow hgr HS
  go_wp2_with fail
  exact HKK.out _ _ _ ⟨rfl, rfl, rfl, rfl, rfl, rfl, rfl, rfl, rfl, rfl, rfl⟩ HS0.out
end Go.Proofs.YtocbbekciphjgaaDoor.Qd
