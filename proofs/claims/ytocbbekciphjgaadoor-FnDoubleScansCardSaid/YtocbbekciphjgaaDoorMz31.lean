/- QdW, Lex, Ley: parts of the proof, one behind another. -/
import Derived.Deep.Quiet
import Derived.Test.YtocbbekciphjgaaDoorMz1
import Derived.Test.YtocbbekciphjgaaDoorMz28
import Derived.Test.YtocbbekciphjgaaDoorMz29
import Derived.Test.YtocbbekciphjgaaDoorMz30
/- QdW -/
/- An escape, whole (yaml_parser_scan_flow_scalar): the walks. Printed by genQdJ.py. -/
namespace Go.Proofs.YtocbbekciphjgaaDoor.Qd
open Go.RowKit Go.Proofs.YtocbbekciphjgaaDoor.Rdp Go.Proofs.YtocbbekciphjgaaDoor.Pa Go.Proofs.YtocbbekciphjgaaDoor.Sc
set_option linter.unusedVariables false
set_option linter.unusedSimpArgs false
theorem esc_det {r a1 a2 : List Int} {x1 x2 : Int} (h : Esc r x1 a1) (h2 : Esc r x2 a2) : x1 = x2 ∧ a1 = a2 := by
  generalize hl : r = l at h2
  cases h with
  | name g =>
    cases h2 with
    | name g2 =>
      obtain ⟨rfl, rfl⟩ := List.cons.inj hl
      rw [g] at g2
      cases g2
      exact ⟨rfl, rfl⟩
    | num e1 e2 e3 e4 e5 =>
      obtain ⟨rfl, _⟩ := List.cons.inj hl
      have := named_long g
      omega
  | num g1 g2 g3 g4 g5 =>
    cases h2 with
    | name e =>
      obtain ⟨rfl, _⟩ := List.cons.inj hl
      have := named_long e
      omega
    | num e1 e2 e3 e4 e5 =>
      obtain ⟨rfl, hr⟩ := List.cons.inj hl
      obtain ⟨rfl, rfl⟩ := List.append_inj hr (by omega)
      exact ⟨hex_unique g3 e3, rfl⟩
set_option maxHeartbeats 32000000 in
set_option maxRecDepth 100000 in
theorem s80z {k : Kn} {p t mk lo : Nat} {s0 s1 s2 : Int} {L0 : List Value} {w1 : World} (hC : Cx k p mk lo s0 s1 s2 L0 w1) {sg : Bool} {sv lbv tbv wsv : Value} {lbr : Bool} {a : Act} {w : World} {K : Act → World → Prop} {Q : Exit → Act → World → Prop} (hF : Fm sg p t mk sv lbv tbv wsv lbr a)  (h13 : gt a 13 = .int .i64 ((0 : Nat) : Int)) 
    (hK : ∀ a', Fm sg p t mk sv lbv tbv wsv lbr a' → gt a' 13 = .int .i64 ((0 : Nat) : Int) → gt a' 410 = .bool false → K a' w) :
    c80.wp Tryd.prog (Exit.then K Q) a w := by
  have HKK := Lib.hid hK
  rw [lit717 a hF.size hF.defers, hF.s0, hF.s1, hF.s2, hF.s7, hF.s8, hF.s9, hF.s10, hF.s11, hF.s12, h13]
  clear hC hF hK h13
  conv => arg 2; whnf
  go_wp2_with fail
  exact HKK.out _ ⟨rfl, rfl, rfl, rfl, rfl, rfl, rfl, rfl, rfl, rfl, rfl⟩ rfl rfl

set_option maxHeartbeats 32000000 in
set_option maxRecDepth 100000 in
theorem s80n {k : Kn} {p t mk lo : Nat} {s0 s1 s2 : Int} {L0 : List Value} {w1 : World} (hC : Cx k p mk lo s0 s1 s2 L0 w1) {sg : Bool} {sv lbv tbv wsv : Value} {lbr : Bool} {a : Act} {w : World} {K : Act → World → Prop} {Q : Exit → Act → World → Prop} (hF : Fm sg p t mk sv lbv tbv wsv lbr a) {n : Nat} (h13 : gt a 13 = .int .i64 (n : Nat)) (hn : 0 < n)
    (hK : ∀ a', Fm sg p t mk sv lbv tbv wsv lbr a' → gt a' 13 = .int .i64 (n : Nat) → gt a' 410 = .bool true → K a' w) :
    c80.wp Tryd.prog (Exit.then K Q) a w := by
  have HKK := Lib.hid hK
  have j1 : (0 : Int) < (n : Int) := by omega
  rw [lit717 a hF.size hF.defers, hF.s0, hF.s1, hF.s2, hF.s7, hF.s8, hF.s9, hF.s10, hF.s11, hF.s12, h13]
  clear hC hF hK h13
  conv => arg 2; whnf
  go_wp2_with fail
  exact HKK.out _ ⟨rfl, rfl, rfl, rfl, rfl, rfl, rfl, rfl, rfl, rfl, rfl⟩ rfl rfl

set_option maxHeartbeats 32000000 in
set_option maxRecDepth 100000 in
theorem s78n {k : Kn} {p t mk lo : Nat} {s0 s1 s2 : Int} {L0 : List Value} {w1 : World} (hC : Cx k p mk lo s0 s1 s2 L0 w1) {sg : Bool} {c u col : Nat} {r s lb tb ws : List Int} {sv lbv tbv wsv : Value} {lbr : Bool} {a : Act} {w : World} {K : Act → World → Prop} {Q : Exit → Act → World → Prop} (hF : Fm sg p t mk sv lbv tbv wsv lbr a) {x : Int} {n : Nat} (hS : St k p lo L0 w1 c (u + 1) col (x :: r) s lb tb ws sv lbv tbv wsv w)
    (h13 : gt a 13 = .int .i64 (n : Nat))
    (hK : ∀ a' w', Fm sg p t mk sv lbv tbv wsv lbr a' → St k p lo L0 w1 (c + (u8 x).length) u (col + 1) r s lb tb ws sv lbv tbv wsv w' → gt a' 13 = .int .i64 (n : Nat) → K a' w') :
    c78.wp Tryd.prog (Exit.then K Q) a w := by
  have hsk := Lib.hid hS.here.skip
  have HS := Lib.hid hS
  have HKK := Lib.hid hK
  have HFAR := Lib.hid hC.far
  rw [lit717 a hF.size hF.defers, hF.s0, hF.s1, hF.s2, hF.s7, hF.s8, hF.s9, hF.s10, hF.s11, hF.s12, h13]
  clear hC hF hS hK h13
  conv => arg 2; whnf
  go_wp2_with fail
  refine hsk.out.mono ?_
  rintro e w' ⟨rfl, hat, hkp, hsz⟩
  have HST := Lib.hid (HS.out.turn HFAR.out hkp hat (by omega))
  clear hat hkp hsz hsk HS
  go_wp2_with fail
  exact HKK.out _ _ ⟨rfl, rfl, rfl, rfl, rfl, rfl, rfl, rfl, rfl, rfl, rfl⟩ HST.out rfl
set_option maxHeartbeats 32000000 in
set_option maxRecDepth 100000 in
theorem s79n {k : Kn} {p t mk lo : Nat} {s0 s1 s2 : Int} {L0 : List Value} {w1 : World} (hC : Cx k p mk lo s0 s1 s2 L0 w1) {sg : Bool} {c u col : Nat} {r s lb tb ws : List Int} {sv lbv tbv wsv : Value} {lbr : Bool} {a : Act} {w : World} {K : Act → World → Prop} {Q : Exit → Act → World → Prop} (hF : Fm sg p t mk sv lbv tbv wsv lbr a) {x : Int} {n : Nat} (hS : St k p lo L0 w1 c (u + 1) col (x :: r) s lb tb ws sv lbv tbv wsv w)
    (h13 : gt a 13 = .int .i64 (n : Nat))
    (hK : ∀ a' w', Fm sg p t mk sv lbv tbv wsv lbr a' → St k p lo L0 w1 (c + (u8 x).length) u (col + 1) r s lb tb ws sv lbv tbv wsv w' → gt a' 13 = .int .i64 (n : Nat) → K a' w') :
    c79.wp Tryd.prog (Exit.then K Q) a w := by
  have hsk := Lib.hid hS.here.skip
  have HS := Lib.hid hS
  have HKK := Lib.hid hK
  have HFAR := Lib.hid hC.far
  rw [lit717 a hF.size hF.defers, hF.s0, hF.s1, hF.s2, hF.s7, hF.s8, hF.s9, hF.s10, hF.s11, hF.s12, h13]
  clear hC hF hS hK h13
  conv => arg 2; whnf
  go_wp2_with fail
  refine hsk.out.mono ?_
  rintro e w' ⟨rfl, hat, hkp, hsz⟩
  have HST := Lib.hid (HS.out.turn HFAR.out hkp hat (by omega))
  clear hat hkp hsz hsk HS
  go_wp2_with fail
  exact HKK.out _ _ ⟨rfl, rfl, rfl, rfl, rfl, rfl, rfl, rfl, rfl, rfl, rfl⟩ HST.out rfl

noncomputable def cFin : Code := .seq c78 (.seq c79 (.seq c80 (.cond (.tmp 410) cNum .skip)))
theorem esc_end {k : Kn} {p t mk lo : Nat} {s0 s1 s2 : Int} {L0 : List Value} {w1 : World} (hC : Cx k p mk lo s0 s1 s2 L0 w1) {sg : Bool} {c u col : Nat} {y : Int} {r s : List Int} {sv lbv tbv wsv : Value} {lbr : Bool} {a : Act} {w : World} {K : Act → World → Prop} {Q : Exit → Act → World → Prop} (hS : St k p lo L0 w1 c u col (92 :: y :: r) s [] [] [] sv lbv tbv wsv w) (hF : Fm sg p t mk sv lbv tbv wsv lbr a) (hu : 2 ≤ u) (hy : y < 128) (h13 : gt a 13 = .int .i64 ((0 : Nat) : Int))
    (hK : ∀ a' w', Fm sg p t mk sv lbv tbv wsv lbr a' → St k p lo L0 w1 (c + 2) (u - 2) (col + 2) r s [] [] [] sv lbv tbv wsv w' → K a' w') :
    cFin.wp Tryd.prog (Exit.then K Q) a w := by
  obtain ⟨u0, rfl⟩ : ∃ u0, u = u0 + 1 + 1 := ⟨u - 2, by omega⟩
  unfold cFin
  refine wp_seq (s78n hC hF hS h13 fun a1 w1' hF1 hS1 e13 => ?_)
  rw [u8_1 (by omega)] at hS1
  refine wp_seq (s79n hC hF1 hS1 e13 fun a2 w2 hF2 hS2 f13 => ?_)
  rw [u8_1 hy] at hS2
  refine wp_seq (s80z hC hF2 f13 fun a3 hF3 g13 g410 => ?_)
  exact wp_cond_split (t := false) (show a3.tmps.getD 410 undef = _ from g410) (fun h => by cases h) (fun _ => wp_skip (hK a3 w2 hF3 hS2))
theorem esc_num {k : Kn} {p t mk lo : Nat} {s0 s1 s2 : Int} {L0 : List Value} {w1 : World} (hC : Cx k p mk lo s0 s1 s2 L0 w1) {sg : Bool} {c u col n : Nat} {y : Int} {r s : List Int} {sv lbv tbv wsv : Value} {lbr : Bool} {a : Act} {w : World} {K : Act → World → Prop} {Q : Exit → Act → World → Prop} (hS : St k p lo L0 w1 c u col (92 :: y :: r) s [] [] [] sv lbv tbv wsv w) (hF : Fm sg p t mk sv lbv tbv wsv lbr a) (hu : 2 ≤ u) (hy : y < 128) (hL : Lfd r) (hne : r ≠ []) (hn : long y = n) (hn1 : 1 ≤ n) (hn8 : n ≤ 8) (hb : s.length + 4 ≤ 4 * c) (h13 : gt a 13 = .int .i64 (n : Nat))
    (hK : ∀ x at' a' w' c' u' col' v', Esc (y :: r) x at' → Fm sg p t mk v' lbv tbv wsv lbr a' → St k p lo L0 w1 c' u' col' at' (s ++ u8 x) [] [] [] v' lbv tbv wsv w' → c + 2 ≤ c' → 1 ≤ col' → K a' w')
    (hX : (∀ x at', ¬ Esc (y :: r) x at') → ∀ a' w', a'.defers = [] → gt a' 6 = .bool false → Er k p w1 w' → Q .ret a' w') :
    cFin.wp Tryd.prog (Exit.then K Q) a w := by
  obtain ⟨u0, rfl⟩ : ∃ u0, u = u0 + 1 + 1 := ⟨u - 2, by omega⟩
  unfold cFin
  refine wp_seq (s78n hC hF hS h13 fun a1 w1' hF1 hS1 e13 => ?_)
  rw [u8_1 (by omega)] at hS1
  refine wp_seq (s79n hC hF1 hS1 e13 fun a2 w2 hF2 hS2 f13 => ?_)
  rw [u8_1 hy] at hS2
  refine wp_seq (s80n hC hF2 f13 (by omega) fun a3 hF3 g13 g410 => ?_)
  refine wp_cond_split (t := true) (show a3.tmps.getD 410 undef = _ from g410) (fun _ => ?_) (fun h => by cases h)
  refine sNum hC hS2 hF3 hL hne hn1 hn8 (by simp only [List.length_cons, List.length_nil]; omega) g13 ?_ ?_
  · intro ds r2 v a4 w4 u4 v4 e1 e2 e3 e4 e5 hF4 hS4
    subst e1
    exact hK v r2 a4 w4 _ _ _ v4 (.num (by omega) (by omega) e3 e4 e5) hF4 hS4 (by simp only [List.length_cons, List.length_nil]; omega) (by omega)
  · intro hno a4 w4 q1 q2 q3
    refine hX ?_ a4 w4 q1 q2 q3
    intro x at' he
    generalize hl : y :: r = l at he
    cases he with
    | name g =>
      obtain ⟨rfl, _⟩ := List.cons.inj hl
      have := named_long g
      omega
    | num g1 g2 g3 g4 g5 =>
      obtain ⟨rfl, hr⟩ := List.cons.inj hl
      exact hno _ _ _ hr (by omega) g3 ⟨g4, g5⟩
theorem cEsc_eq2 : cEsc = .seq c27 (.seq cSw cFin) := cEsc_eq
theorem sEsc {k : Kn} {p t mk lo : Nat} {s0 s1 s2 : Int} {L0 : List Value} {w1 : World} (hC : Cx k p mk lo s0 s1 s2 L0 w1) {sg : Bool} {c u col : Nat} {r s : List Int} {sv lbv tbv wsv : Value} {lbr : Bool} {a : Act} {w : World} {K : Act → World → Prop} {Q : Exit → Act → World → Prop} (hS : St k p lo L0 w1 c u col (92 :: r) s [] [] [] sv lbv tbv wsv w) (hF : Fm sg p t mk sv lbv tbv wsv lbr a) (hR : Rdy k.T c 2 u) (hL : Lfd (92 :: r)) (h10 : ∀ t, r ≠ 10 :: t) (ha : away r = false) (hb : s.length + 4 ≤ 4 * c)
    (hK : ∀ x at' a' w' c' u' col' v', Esc r x at' → Fm sg p t mk v' lbv tbv wsv lbr a' → St k p lo L0 w1 c' u' col' at' (s ++ u8 x) [] [] [] v' lbv tbv wsv w' → c + 2 ≤ c' → 1 ≤ col' → K a' w')
    (hX : (∀ x at', ¬ Esc r x at') → ∀ a' w', a'.defers = [] → gt a' 6 = .bool false → Er k p w1 w' → Q .ret a' w') :
    cEsc.wp Tryd.prog (Exit.then K Q) a w := by
  cases r with
  | nil =>
    have := hL.last
    omega
  | cons y r =>
    have hL2 := hL.tail.tail
    have hne : r ≠ [] := by
      rintro rfl
      have := hL.tail.last
      exact h10 [] (by rw [this])
    have hu : 2 ≤ u := hS.here.has hR (Nat.le_refl _) (by simp)
    have hch := hS.here.ch y (by simp)
    have hb' : s.length + ([] : List Int).length + ([] : List Int).length + ([] : List Int).length + 4 ≤ 4 * c := by simp only [List.length_nil]; omega
    rw [cEsc_eq2]
    refine wp_seq (s27 hC hF fun a1 hF1 e13 => ?_)
    have fin : ∀ (x : Int) (ys : List Int) (a2 : Act) (w2 : World) (v2 : Value), named y = some x → u8 x = ys → y < 128 → Fm sg p t mk v2 lbv tbv wsv lbr a2 → St k p lo L0 w1 c u col (92 :: y :: r) (s ++ ys) [] [] [] v2 lbv tbv wsv w2 → gt a2 13 = .int .i64 ((0 : Nat) : Int) → cFin.wp Tryd.prog (Exit.then K Q) a2 w2 := by
      intro x ys a2 w2 v2 hn hys hy hF2 hS2 f13
      refine esc_end hC hS2 hF2 hu hy f13 fun a3 w3 hF3 hS3 => ?_
      rw [← hys] at hS3
      exact hK x r a3 w3 _ _ _ v2 (.name hn) hF3 hS3 (Nat.le_refl _) (by omega)
    by_cases q48 : y = 48
    · subst q48
      exact wp_seq (sw_48 hC hF1 hS hu e13 hb' fun a2 w2 v2 hF2 hS2 f13 => fin 0 _ a2 w2 v2 rfl rfl (by omega) hF2 hS2 f13)
    by_cases q97 : y = 97
    · subst q97
      exact wp_seq (sw_97 hC hF1 hS hu e13 hb' fun a2 w2 v2 hF2 hS2 f13 => fin 7 _ a2 w2 v2 rfl rfl (by omega) hF2 hS2 f13)
    by_cases q98 : y = 98
    · subst q98
      exact wp_seq (sw_98 hC hF1 hS hu e13 hb' fun a2 w2 v2 hF2 hS2 f13 => fin 8 _ a2 w2 v2 rfl rfl (by omega) hF2 hS2 f13)
    by_cases q116 : y = 116
    · subst q116
      exact wp_seq (sw_116 hC hF1 hS hu e13 hb' fun a2 w2 v2 hF2 hS2 f13 => fin 9 _ a2 w2 v2 rfl rfl (by omega) hF2 hS2 f13)
    by_cases q9 : y = 9
    · subst q9
      exact wp_seq (sw_9 hC hF1 hS hu e13 hb' fun a2 w2 v2 hF2 hS2 f13 => fin 9 _ a2 w2 v2 rfl rfl (by omega) hF2 hS2 f13)
    by_cases q110 : y = 110
    · subst q110
      exact wp_seq (sw_110 hC hF1 hS hu e13 hb' fun a2 w2 v2 hF2 hS2 f13 => fin 10 _ a2 w2 v2 rfl rfl (by omega) hF2 hS2 f13)
    by_cases q118 : y = 118
    · subst q118
      exact wp_seq (sw_118 hC hF1 hS hu e13 hb' fun a2 w2 v2 hF2 hS2 f13 => fin 11 _ a2 w2 v2 rfl rfl (by omega) hF2 hS2 f13)
    by_cases q102 : y = 102
    · subst q102
      exact wp_seq (sw_102 hC hF1 hS hu e13 hb' fun a2 w2 v2 hF2 hS2 f13 => fin 12 _ a2 w2 v2 rfl rfl (by omega) hF2 hS2 f13)
    by_cases q114 : y = 114
    · subst q114
      exact wp_seq (sw_114 hC hF1 hS hu e13 hb' fun a2 w2 v2 hF2 hS2 f13 => fin 13 _ a2 w2 v2 rfl rfl (by omega) hF2 hS2 f13)
    by_cases q101 : y = 101
    · subst q101
      exact wp_seq (sw_101 hC hF1 hS hu e13 hb' fun a2 w2 v2 hF2 hS2 f13 => fin 27 _ a2 w2 v2 rfl rfl (by omega) hF2 hS2 f13)
    by_cases q32 : y = 32
    · subst q32
      exact wp_seq (sw_32 hC hF1 hS hu e13 hb' fun a2 w2 v2 hF2 hS2 f13 => fin 32 _ a2 w2 v2 rfl rfl (by omega) hF2 hS2 f13)
    by_cases q34 : y = 34
    · subst q34
      exact wp_seq (sw_34 hC hF1 hS hu e13 hb' fun a2 w2 v2 hF2 hS2 f13 => fin 34 _ a2 w2 v2 rfl rfl (by omega) hF2 hS2 f13)
    by_cases q92 : y = 92
    · subst q92
      exact wp_seq (sw_92 hC hF1 hS hu e13 hb' fun a2 w2 v2 hF2 hS2 f13 => fin 92 _ a2 w2 v2 rfl rfl (by omega) hF2 hS2 f13)
    by_cases q78 : y = 78
    · subst q78
      exact wp_seq (sw_78 hC hF1 hS hu e13 hb' fun a2 w2 v2 hF2 hS2 f13 => fin 133 _ a2 w2 v2 rfl rfl (by omega) hF2 hS2 f13)
    by_cases q95 : y = 95
    · subst q95
      exact wp_seq (sw_95 hC hF1 hS hu e13 hb' fun a2 w2 v2 hF2 hS2 f13 => fin 160 _ a2 w2 v2 rfl rfl (by omega) hF2 hS2 f13)
    by_cases q76 : y = 76
    · subst q76
      exact wp_seq (sw_76 hC hF1 hS hu e13 hb' fun a2 w2 v2 hF2 hS2 f13 => fin 8232 _ a2 w2 v2 rfl rfl (by omega) hF2 hS2 f13)
    by_cases q80 : y = 80
    · subst q80
      exact wp_seq (sw_80 hC hF1 hS hu e13 hb' fun a2 w2 v2 hF2 hS2 f13 => fin 8233 _ a2 w2 v2 rfl rfl (by omega) hF2 hS2 f13)
    by_cases q120 : y = 120
    · subst q120
      exact wp_seq (sw_120 hC hF1 hS hu e13 fun a2 w2 hF2 hS2 f13 => esc_num hC hS2 hF2 hu (by omega) hL2 hne (n := 2) rfl (by omega) (by omega) hb f13 hK hX)
    by_cases q117 : y = 117
    · subst q117
      exact wp_seq (sw_117 hC hF1 hS hu e13 fun a2 w2 hF2 hS2 f13 => esc_num hC hS2 hF2 hu (by omega) hL2 hne (n := 4) rfl (by omega) (by omega) hb f13 hK hX)
    by_cases q85 : y = 85
    · subst q85
      exact wp_seq (sw_85 hC hF1 hS hu e13 fun a2 w2 hF2 hS2 f13 => esc_num hC hS2 hF2 hu (by omega) hL2 hne (n := 8) rfl (by omega) (by omega) hb f13 hK hX)
    have hno : named y = none := by
      unfold named
      simp only [q48, q97, q98, q116, q9, q110, q118, q102, q114, q101, q32, q34, q92, q78, q95, q76, q80, or_self, if_false]
    have hlo : long y = 0 := by
      unfold long
      simp only [q120, q117, q85, if_false]
    have h39 : y ≠ 39 := by
      unfold away at ha
      simp at ha
      omega
    have hfb : ∀ k : Int, 0 < k → k < 128 → y ≠ k → fb (y :: r) ≠ k := by
      intro k k0 k1 hk
      by_cases hl : y < 128
      · rw [fb_small hl]; exact hk
      · have := fb_great (r := r) hch (by omega)
        omega
    refine wp_seq (sw_no hC hF1 hS hu e13 ⟨hfb 48 (by omega) (by omega) q48, hfb 97 (by omega) (by omega) q97, hfb 98 (by omega) (by omega) q98, hfb 116 (by omega) (by omega) q116, hfb 9 (by omega) (by omega) q9, hfb 110 (by omega) (by omega) q110, hfb 118 (by omega) (by omega) q118, hfb 102 (by omega) (by omega) q102, hfb 114 (by omega) (by omega) q114, hfb 101 (by omega) (by omega) q101, hfb 32 (by omega) (by omega) q32, hfb 34 (by omega) (by omega) q34, hfb 39 (by omega) (by omega) h39, hfb 92 (by omega) (by omega) q92, hfb 78 (by omega) (by omega) q78, hfb 95 (by omega) (by omega) q95, hfb 76 (by omega) (by omega) q76, hfb 80 (by omega) (by omega) q80, hfb 120 (by omega) (by omega) q120, hfb 117 (by omega) (by omega) q117, hfb 85 (by omega) (by omega) q85⟩ ?_)
    refine hX ?_
    intro x at' he
    generalize hl : y :: r = l at he
    cases he with
    | name g =>
      obtain ⟨rfl, _⟩ := List.cons.inj hl
      rw [hno] at g
      cases g
    | num g1 g2 g3 g4 g5 =>
      obtain ⟨rfl, _⟩ := List.cons.inj hl
      omega
end Go.Proofs.YtocbbekciphjgaaDoor.Qd
/- Lex -/
/- A region whose operations may be taken in the order of the text: a check that is quick for regions of a hundred operations. -/
namespace Go.Proofs.YtocbbekciphjgaaDoor.Sp
open Go
/-- All that an operation waits for lies ahead of it. -/
def backL : List Oper → Nat → Bool
  | [], _ => true
  | o :: r, k => (o.after.all fun e => !Region.binds .any e || decide (e.on < k)) && backL r (k + 1)
/-- Of two operations the second waits for the first, or they are apart. -/
def pairsL (ops : Array Oper) : List Oper → Nat → Bool
  | [], _ => true
  | o :: r, i => (r.all fun y => (y.after.any fun e => Region.binds .any e && e.on == i) || o.apart ops y) && pairsL ops r (i + 1)
theorem backL_at : ∀ (l : List Oper) (k : Nat), backL l k = true → ∀ (j : Nat) (o : Oper), l[j]? = some o → (o.after.all fun e => !Region.binds .any e || decide (e.on < k + j)) = true := by
  intro l
  induction l with
  | nil => intro k _ j o h; simp at h
  | cons x r ih =>
    intro k h j o hj
    simp only [backL, Bool.and_eq_true] at h
    cases j with
    | zero =>
      simp at hj
      subst hj
      exact h.1
    | succ j =>
      have := ih (k + 1) h.2 j o (by simpa using hj)
      rw [show k + 1 + j = k + (j + 1) by omega] at this
      exact this
theorem pairsL_at (ops : Array Oper) : ∀ (l : List Oper) (k : Nat), pairsL ops l k = true → ∀ (i j : Nat) (x y : Oper), i < j → l[i]? = some x → l[j]? = some y → ((y.after.any fun e => Region.binds .any e && e.on == k + i) || x.apart ops y) = true := by
  intro l
  induction l with
  | nil => intro k _ i j x y _ h; simp at h
  | cons z r ih =>
    intro k h i j x y hij hi hj
    simp only [pairsL, Bool.and_eq_true] at h
    cases j with
    | zero => omega
    | succ j =>
      have hj' : r[j]? = some y := by simpa using hj
      cases i with
      | zero =>
        simp at hi
        subst hi
        rw [List.all_eq_true] at h
        exact h.1 y (List.mem_of_getElem? hj')
      | succ i =>
        have := ih (k + 1) h.2 i j x y (by omega) (by simpa using hi) hj'
        rw [show k + 1 + i = k + (i + 1) by omega] at this
        exact this
theorem lexFrom_quick (ops : Array Oper) (hb : backL ops.toList 0 = true) (hp : pairsL ops ops.toList 0 = true) : ∀ (fuel k : Nat) (listed : Array Bool), k + fuel = ops.size → listed.size = ops.size → (∀ j x, j < ops.size → listed.getD j x = decide (j < k)) → Region.lexFrom .any ops fuel k listed = true := by
  intro fuel
  induction fuel with
  | zero =>
    intro k listed hk hs hl
    simp only [Region.lexFrom, List.isEmpty_iff]
    unfold Region.ready
    rw [List.filter_eq_nil_iff]
    intro i hi
    have hi' : i < ops.size := by simpa using hi
    rw [hl i true hi']
    simp
    omega
  | succ fuel ih =>
    intro k listed hk hs hl
    have hkl : k < ops.size := by omega
    obtain ⟨o, ho⟩ : ∃ o, ops[k]? = some o := ⟨_, Array.getElem?_eq_getElem hkl⟩
    have hoL : ops.toList[k]? = some o := by rw [Array.getElem?_toList]; exact ho
    simp only [Region.lexFrom, Bool.and_eq_true]
    refine ⟨⟨?_, ?_⟩, ih (k + 1) _ (by omega) (by simpa using hs) fun j x hj => ?_⟩
    · rw [List.contains_iff_mem]
      unfold Region.ready
      rw [List.mem_filter]
      refine ⟨by simpa using hkl, ?_⟩
      rw [hl k true hkl, ho]
      simp only [Nat.lt_irrefl, decide_false, Bool.not_false, Bool.true_and, Option.map_some, Option.getD_some]
      have := backL_at ops.toList 0 hb k o hoL
      rw [Nat.zero_add] at this
      rw [Array.all_eq_true_iff_forall_mem] at this ⊢
      intro e he
      have h1 := this e he
      rw [Bool.or_eq_true] at h1 ⊢
      rcases h1 with h1 | h1
      · exact .inl h1
      · right
        have h2 := of_decide_eq_true h1
        rw [hl e.on false (by omega)]
        exact h1
    · unfold Region.free
      rw [ho]
      simp only [List.all_eq_true, List.mem_range]
      intro j hj
      by_cases hjk : j = k
      · simp [hjk]
      · rw [hl j true hj]
        by_cases hlt : j < k
        · simp [hlt]
        · obtain ⟨y, hy⟩ : ∃ y, ops[j]? = some y := ⟨_, Array.getElem?_eq_getElem hj⟩
          have := pairsL_at ops ops.toList 0 hp k j o y (by omega) hoL (by rw [Array.getElem?_toList]; exact hy)
          rw [Nat.zero_add] at this
          rw [hy]
          simp only [this, Bool.or_true]
    · rw [Array.getD_eq_getD_getElem?]
      by_cases hjk : j = k
      · subst hjk
        rw [Array.getElem?_setIfInBounds_self_of_lt (by omega)]
        simp
      · rw [Array.getElem?_setIfInBounds_ne (by omega), ← Array.getD_eq_getD_getElem?, hl j x hj]
        congr 1
        simp
        omega
/-- The quick check. -/
def quickB (ops : Array Oper) : Bool := Region.noSelect ops && (backL ops.toList 0 && pairsL ops ops.toList 0)
theorem lexB_quick (ops : Array Oper) (h : quickB ops = true) : Region.lexB .any ops = true := by
  unfold quickB at h
  simp only [Bool.and_eq_true] at h
  unfold Region.lexB
  rw [Bool.and_eq_true]
  refine ⟨h.1, lexFrom_quick ops h.2.1 h.2.2 ops.size 0 _ (by omega) (by simp) fun j x hj => ?_⟩
  rw [Array.getD_eq_getD_getElem?]
  simp [hj]
end Go.Proofs.YtocbbekciphjgaaDoor.Sp
/- Ley -/
/- A region whose operations may be taken in the order of the text: a check that is linear but for the look-ups. -/
namespace Go.Proofs.YtocbbekciphjgaaDoor.Sp
open Go
theorem lexFrom_gen (ops : Array Oper) (hb : backL ops.toList 0 = true) (hp : ∀ (i j : Nat) (x y : Oper), i < j → ops.toList[i]? = some x → ops.toList[j]? = some y → ((y.after.any fun e => Region.binds .any e && e.on == i) || x.apart ops y) = true) : ∀ (fuel k : Nat) (listed : Array Bool), k + fuel = ops.size → listed.size = ops.size → (∀ j x, j < ops.size → listed.getD j x = decide (j < k)) → Region.lexFrom .any ops fuel k listed = true := by
  intro fuel
  induction fuel with
  | zero =>
    intro k listed hk hs hl
    simp only [Region.lexFrom, List.isEmpty_iff]
    unfold Region.ready
    rw [List.filter_eq_nil_iff]
    intro i hi
    have hi' : i < ops.size := by simpa using hi
    rw [hl i true hi']
    simp
    omega
  | succ fuel ih =>
    intro k listed hk hs hl
    have hkl : k < ops.size := by omega
    obtain ⟨o, ho⟩ : ∃ o, ops[k]? = some o := ⟨_, Array.getElem?_eq_getElem hkl⟩
    have hoL : ops.toList[k]? = some o := by rw [Array.getElem?_toList]; exact ho
    simp only [Region.lexFrom, Bool.and_eq_true]
    refine ⟨⟨?_, ?_⟩, ih (k + 1) _ (by omega) (by simpa using hs) fun j x hj => ?_⟩
    · rw [List.contains_iff_mem]
      unfold Region.ready
      rw [List.mem_filter]
      refine ⟨by simpa using hkl, ?_⟩
      rw [hl k true hkl, ho]
      simp only [Nat.lt_irrefl, decide_false, Bool.not_false, Bool.true_and, Option.map_some, Option.getD_some]
      have := backL_at ops.toList 0 hb k o hoL
      rw [Nat.zero_add] at this
      rw [Array.all_eq_true_iff_forall_mem] at this ⊢
      intro e he
      have h1 := this e he
      rw [Bool.or_eq_true] at h1 ⊢
      rcases h1 with h1 | h1
      · exact .inl h1
      · right
        have h2 := of_decide_eq_true h1
        rw [hl e.on false (by omega)]
        exact h1
    · unfold Region.free
      rw [ho]
      simp only [List.all_eq_true, List.mem_range]
      intro j hj
      by_cases hjk : j = k
      · simp [hjk]
      · rw [hl j true hj]
        by_cases hlt : j < k
        · simp [hlt]
        · obtain ⟨y, hy⟩ : ∃ y, ops[j]? = some y := ⟨_, Array.getElem?_eq_getElem hj⟩
          have := hp k j o y (by omega) hoL (by rw [Array.getElem?_toList]; exact hy)
          rw [hy]
          simp only [this, Bool.or_true]
    · rw [Array.getD_eq_getD_getElem?]
      by_cases hjk : j = k
      · subst hjk
        rw [Array.getElem?_setIfInBounds_self_of_lt (by omega)]
        simp
      · rw [Array.getElem?_setIfInBounds_ne (by omega), ← Array.getD_eq_getD_getElem?, hl j x hj]
        congr 1
        simp
        omega
/-- Each operation leaves its value behind all ahead of it, and looks at what it waits for, or at what none of them writes. -/
def chain (ops : Array Oper) (d0 : Nat) : List Oper → Nat → Bool
  | [], _ => true
  | o :: r, lb => match o.dst with
    | none => false
    | some d => decide (lb ≤ d) && ((o.looksAt ops).all fun t => decide (t < d) && (decide (t < d0) || o.after.any fun e => Region.binds .any e && dstOf ops e.on == some t)) && chain ops d0 r (d + 1)
theorem chain_at (ops : Array Oper) (d0 : Nat) : ∀ (l : List Oper) (lb : Nat), chain ops d0 l lb = true → ∀ (i : Nat) (o : Oper), l[i]? = some o → ∃ d, o.dst = some d ∧ lb ≤ d ∧ ((o.looksAt ops).all fun t => decide (t < d) && (decide (t < d0) || o.after.any fun e => Region.binds .any e && dstOf ops e.on == some t)) = true := by
  intro l
  induction l with
  | nil => intro lb _ i o h; simp at h
  | cons z r ih =>
    intro lb h i o ho
    unfold chain at h
    cases hz : z.dst with
    | none => rw [hz] at h; cases h
    | some d =>
      rw [hz] at h
      simp only [Bool.and_eq_true] at h
      obtain ⟨⟨h1, h2⟩, h3⟩ := h
      cases i with
      | zero =>
        simp at ho
        subst ho
        exact ⟨d, hz, of_decide_eq_true h1, h2⟩
      | succ i =>
        obtain ⟨d', e1, e2, e3⟩ := ih (d + 1) h3 i o (by simpa using ho)
        exact ⟨d', e1, by have := of_decide_eq_true h1; omega, e3⟩
theorem chain_inc (ops : Array Oper) (d0 : Nat) : ∀ (l : List Oper) (lb : Nat), chain ops d0 l lb = true → ∀ (i j : Nat) (x y : Oper) (dx dy : Nat), i < j → l[i]? = some x → l[j]? = some y → x.dst = some dx → y.dst = some dy → dx < dy := by
  intro l
  induction l with
  | nil => intro lb _ i j x y dx dy _ h; simp at h
  | cons z r ih =>
    intro lb h i j x y dx dy hij hi hj hx hy
    unfold chain at h
    cases hz : z.dst with
    | none => rw [hz] at h; cases h
    | some d =>
      rw [hz] at h
      simp only [Bool.and_eq_true] at h
      obtain ⟨⟨h1, h2⟩, h3⟩ := h
      cases j with
      | zero => omega
      | succ j =>
        have hj' : r[j]? = some y := by simpa using hj
        cases i with
        | zero =>
          simp at hi
          subst hi
          obtain ⟨d', e1, e2, _⟩ := chain_at ops d0 r (d + 1) h3 j y hj'
          rw [hx] at hz
          rw [hy] at e1
          obtain rfl := Option.some.inj hz
          obtain rfl := Option.some.inj e1
          omega
        | succ i => exact ih (d + 1) h3 i j x y dx dy (by omega) (by simpa using hi) hj' hx hy
/-- A check that is linear but for the look-ups. -/
def chainB (ops : Array Oper) (d0 : Nat) : Bool := Region.noSelect ops && (backL ops.toList 0 && chain ops d0 ops.toList d0)
theorem lexB_chain (ops : Array Oper) (d0 : Nat) (h : chainB ops d0 = true) : Region.lexB .any ops = true := by
  unfold chainB at h
  simp only [Bool.and_eq_true] at h
  unfold Region.lexB
  rw [Bool.and_eq_true]
  refine ⟨h.1, lexFrom_gen ops h.2.1 (fun i j x y hij hi hj => ?_) ops.size 0 _ (by omega) (by simp) fun j x hj => by rw [Array.getD_eq_getD_getElem?]; simp [hj]⟩
  obtain ⟨dx, e1, l1, a1⟩ := chain_at ops d0 _ _ h.2.2 i x hi
  obtain ⟨dy, e2, l2, a2⟩ := chain_at ops d0 _ _ h.2.2 j y hj
  have hlt := chain_inc ops d0 _ _ h.2.2 i j x y dx dy hij hi hj e1 e2
  have l1' : ∀ (i : Nat) (x : Oper) (dx : Nat), ops.toList[i]? = some x → x.dst = some dx → d0 ≤ dx := fun i x dx hi e1 => by
    obtain ⟨d', q1, q2, _⟩ := chain_at ops d0 _ _ h.2.2 i x hi
    rw [e1] at q1
    obtain rfl := Option.some.inj q1
    exact q2
  rw [List.all_eq_true] at a1 a2
  by_cases hl : dx ∈ y.looksAt ops
  · have h1 := a2 dx hl
    simp only [Bool.and_eq_true, Bool.or_eq_true, decide_eq_true_eq] at h1
    rcases h1.2 with h2 | h2
    · exact absurd h2 (Nat.not_lt.2 (l1' i x dx hi e1))
    · rw [Bool.or_eq_true]
      left
      rw [Array.any_eq_true] at h2 ⊢
      obtain ⟨m, hm, h2⟩ := h2
      refine ⟨m, hm, ?_⟩
      simp only [Bool.and_eq_true, beq_iff_eq] at h2 ⊢
      refine ⟨h2.1, ?_⟩
      have h3 := h2.2
      unfold dstOf at h3
      cases ho : ops[(y.after[m]).on]? with
      | none => rw [ho] at h3; cases h3
      | some o =>
        rw [ho] at h3
        have h4 : o.dst = some dx := h3
        have hoL : ops.toList[(y.after[m]).on]? = some o := by rw [Array.getElem?_toList]; exact ho
        rcases Nat.lt_trichotomy (y.after[m]).on i with q | q | q
        · have := chain_inc ops d0 _ _ h.2.2 _ _ o x dx dx q hoL hi h4 e1
          omega
        · exact q
        · have := chain_inc ops d0 _ _ h.2.2 _ _ x o dx dx q hi hoL e1 h4
          omega
  · rw [Bool.or_eq_true]
    right
    unfold Oper.apart
    rw [e1, e2]
    have n1 : dy ∉ x.looksAt ops := fun hh => by
      have h5 := a1 dy hh
      rw [Bool.and_eq_true] at h5
      have h6 := of_decide_eq_true h5.1
      exact absurd h6 (Nat.not_lt.2 (Nat.le_of_lt hlt))
    have n2 : dy ≠ dx := Nat.ne_of_gt hlt
    simp [hl, n1, n2]
end Go.Proofs.YtocbbekciphjgaaDoor.Sp
