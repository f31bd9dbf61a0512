/- QdV: parts of the proof, one behind another. -/
import Derived.Test.YtocbbekciphjgaaDoorMz25
import Derived.Test.YtocbbekciphjgaaDoorMz27
/- QdV -/
/- A character by its number, whole (yaml_parser_scan_flow_scalar): the walks. Printed by genQdJ.py. -/
namespace Go.Proofs.YtocbbekciphjgaaDoor.Qd
open Go.RowKit Go.Proofs.YtocbbekciphjgaaDoor.Rdp Go.Proofs.YtocbbekciphjgaaDoor.Pa Go.Proofs.YtocbbekciphjgaaDoor.Sc
set_option linter.unusedVariables false
set_option linter.unusedSimpArgs false
theorem hex_unique {l : List Int} {v : Int} (h : Hex l v) : ∀ {v2 : Int}, Hex l v2 → v = v2 := by
  induction h with
  | nil =>
    intro v2 h2
    generalize hl : ([] : List Int) = l at h2
    cases h2 with
    | nil => rfl
    | snoc a b => simp at hl
  | snoc a b ih =>
    intro v2 h2
    obtain ⟨w, x, g1, g2, g3⟩ := hex_snoc h2 _ _ rfl
    rw [b] at g2
    cases g2
    rw [g3, ih g1]
theorem hex_bound {l : List Int} {v : Int} (h : Hex l v) : 0 ≤ v ∧ v < 16 ^ l.length := by
  induction h with
  | nil => exact ⟨by omega, by decide⟩
  | snoc a b ih =>
    rename_i l v d x
    have hx := hexd_range b
    have e : (16 : Int) ^ (l ++ [d]).length = 16 ^ l.length * 16 := by simp [Int.pow_succ]
    rw [e]
    omega
theorem hex_small {l : List Int} {v : Int} (h : Hex l v) (hl : l.length ≤ 7) : 0 ≤ v ∧ v ≤ 4294967295 := by
  obtain ⟨h0, h1⟩ := hex_bound h
  refine ⟨h0, ?_⟩
  have hc : l.length = 0 ∨ l.length = 1 ∨ l.length = 2 ∨ l.length = 3 ∨ l.length = 4 ∨ l.length = 5 ∨ l.length = 6 ∨ l.length = 7 := by omega
  rcases hc with e | e | e | e | e | e | e | e
  all_goals
    rw [e] at h1
    exact Int.le_of_lt (Int.lt_of_lt_of_le h1 (by decide))
theorem hex_ascii {l : List Int} {v : Int} (h : Hex l v) : ∀ x ∈ l, 48 ≤ x ∧ x < 128 := by
  intro x hx
  obtain ⟨d, hd⟩ := h.mem x hx
  have := hexd_range hd
  omega
/-- Where one beginning is longer than another. -/
theorem longer {a b c d : List Int} (h : a ++ b = c ++ d) (hl : c.length < a.length) : ∃ y t, d = y :: t ∧ y ∈ a := by
  have h1 := congrArg (fun x => x[c.length]?) h
  simp only [List.getElem?_append_left hl, List.getElem?_append_right (Nat.le_refl _), Nat.sub_self] at h1
  cases d with
  | nil =>
    rw [List.getElem?_eq_getElem hl] at h1
    simp at h1
  | cons y t =>
    refine ⟨y, t, rfl, ?_⟩
    simp at h1
    exact List.mem_of_getElem? h1
theorem hexloop {k : Kn} {p t mk lo : Nat} {s0 s1 s2 : Int} {L0 : List Value} {w1 : World} (hC : Cx k p mk lo s0 s1 s2 L0 w1) {sg : Bool} {c u col n : Nat} {rest s lb tb ws : List Int} {sv lbv tbv wsv : Value} {lbr : Bool} {a : Act} {w : World} {K : Act → World → Prop} {Q : Exit → Act → World → Prop} (hS : St k p lo L0 w1 c u col rest s lb tb ws sv lbv tbv wsv w) (hF : Fm sg p t mk sv lbv tbv wsv lbr a) (hR : Rdy k.T c n u) (hL : Lfd rest) (hne : rest ≠ []) (hn1 : 1 ≤ n) (hn : n ≤ 8) (h13 : gt a 13 = .int .i64 (n : Nat)) (h14 : gt a 14 = .int .i64 0) (h15 : gt a 15 = .int .i64 ((0 : Nat) : Int))
    (hK : ∀ ds r2 v a' w', rest = ds ++ r2 → ds.length = n → Hex ds v → Fm sg p t mk sv lbv tbv wsv lbr a' → St k p lo L0 w1 c u col rest s lb tb ws sv lbv tbv wsv w' → gt a' 13 = .int .i64 (n : Nat) → gt a' 14 = .int .i64 v → K a' w')
    (hX : (∀ ds r2 v, rest = ds ++ r2 → ds.length = n → ¬ Hex ds v) → ∀ a' w', a'.defers = [] → gt a' 6 = .bool false → Er k p w1 w' → Q .ret a' w') :
    (Code.block 5 (Code.loop cN5)).wp Tryd.prog (Exit.then K Q) a w := by
  refine wp_block ?_
  refine wp_loop_ghost_k (fun g a2 w2 => ∃ ds r2 v, g = n - ds.length ∧ rest = ds ++ r2 ∧ ds.length ≤ n ∧ Hex ds v ∧ Fm sg p t mk sv lbv tbv wsv lbr a2 ∧ St k p lo L0 w1 c u col rest s lb tb ws sv lbv tbv wsv w2 ∧ gt a2 13 = .int .i64 (n : Nat) ∧ gt a2 14 = .int .i64 v ∧ gt a2 15 = .int .i64 (ds.length : Nat)) n ⟨[], rest, 0, rfl, rfl, Nat.zero_le _, .nil, hF, hS, h13, h14, h15⟩ ?_
  rintro g a2 w2 ⟨ds, r2, v, rfl, hrest, hdl, hh, hF2, hS2, e13, e14, e15⟩ J K2 hJ hK2
  rw [cN5_eq]
  by_cases hlt : ds.length < n
  · refine wp_seq (s85_in hC hF2 e13 e14 e15 hlt hn fun a3 hF3 f13 f14 f15 => ?_)
    have hr2 : r2 ≠ [] := by
      rintro rfl
      rw [List.append_nil] at hrest
      rcases hL with h | ⟨l, h⟩
      · exact hne h
      · obtain ⟨d, hd⟩ := hh.mem 10 (by rw [← hrest, h]; simp)
        cases hd
    have hu : ds.length + 1 ≤ u := hS2.here.has hR (by omega) (by
      rw [hrest]
      cases r2 with
      | nil => exact absurd rfl hr2
      | cons y r3 => simp)
    have hasc := hex_ascii hh
    subst hrest
    refine wp_seq (wp_block ?_)
    rw [then_block]
    refine wp_seq (s87 hC hF3 hS2 hu (fun x hx => (hasc x hx).2) (by omega) f13 f14 f15 ?_ ?_)
    · intro hsome a4 w4 hF4 hS4 g13 g14 g15
      obtain ⟨d, hd⟩ := Option.isSome_iff_exists.1 hsome
      have hxr := hexd_range hd
      obtain ⟨r3, hr3⟩ := fb_inv (fun x hx => hS4.here.ch x (by simp [hx])) (y := fb r2) rfl (by omega) (by omega)
      obtain ⟨hv0, hv1⟩ := hex_small hh (by omega)
      refine s90 hC hF4 hS4 hu (fun x hx => (hasc x hx).2) (by omega) hd hv0 hv1 g13 g14 g15 fun a5 w5 hF5 hS5 i13 i14 i15 => ?_
      refine s86 hC hF5 i13 i14 i15 (by omega) fun a6 hF6 l13 l14 l15 => ?_
      have heq : ds ++ r2 = (ds ++ [fb r2]) ++ r3 := by
        rw [List.append_assoc]
        show ds ++ r2 = ds ++ (fb r2 :: r3)
        rw [← hr3]
      have hlen : (ds ++ [fb r2]).length = ds.length + 1 := by simp
      exact hK2 _ _ (Handed.intro (n - (ds ++ [fb r2]).length) (by omega) (hJ _ _ _ ⟨ds ++ [fb r2], r3, v * 16 + d, rfl, heq, by omega, .snoc hh hd, hF6, hS5, l13, l14, by rw [hlen]; exact l15⟩))
    · intro hnone a4 w4 hd4 h64 her
      refine hX ?_ a4 w4 hd4 h64 her
      intro ds' r' v' e hl' hh'
      obtain ⟨y, tt, hy, hmem⟩ := longer e.symm (by omega)
      obtain ⟨d, hd⟩ := hh'.mem y hmem
      have := hexd_range hd
      rw [hy, fb_small (by omega), hd] at hnone
      cases hnone
  · refine wp_seq (s85_out hC hF2 e13 e14 e15 (by omega) hn fun a3 hF3 f13 f14 f15 => ?_)
    exact hK ds r2 v a3 w2 hrest (by omega) hh hF3 hS2 f13 f14
set_option maxHeartbeats 32000000 in
set_option maxRecDepth 100000 in
theorem s110n {k : Kn} {p t mk lo : Nat} {s0 s1 s2 : Int} {L0 : List Value} {w1 : World} (hC : Cx k p mk lo s0 s1 s2 L0 w1) {sg : Bool} {c u col : Nat} {r s lb tb ws : List Int} {sv lbv tbv wsv : Value} {lbr : Bool} {a : Act} {w : World} {K : Act → World → Prop} {Q : Exit → Act → World → Prop} (hF : Fm sg p t mk sv lbv tbv wsv lbr a) {x : Int} {n i : Nat} (hS : St k p lo L0 w1 c (u + 1) col (x :: r) s lb tb ws sv lbv tbv wsv w)
    (h13 : gt a 13 = .int .i64 (n : Nat)) (h16 : gt a 16 = .int .i64 (i : Nat))
    (hK : ∀ a' w', Fm sg p t mk sv lbv tbv wsv lbr a' → St k p lo L0 w1 (c + (u8 x).length) u (col + 1) r s lb tb ws sv lbv tbv wsv w' → gt a' 13 = .int .i64 (n : Nat) → gt a' 16 = .int .i64 (i : Nat) → K a' w') :
    c110.wp Tryd.prog (Exit.then K Q) a w := by
  have hsk := Lib.hid hS.here.skip
  have HS := Lib.hid hS
  have HKK := Lib.hid hK
  have HFAR := Lib.hid hC.far
  rw [lit717 a hF.size hF.defers, hF.s0, hF.s1, hF.s2, hF.s7, hF.s8, hF.s9, hF.s10, hF.s11, hF.s12, h13, h16]
  clear hC hF hS hK h13 h16
  conv => arg 2; whnf
  go_wp2_with fail
  refine hsk.out.mono ?_
  rintro e w' ⟨rfl, hat, hkp, hsz⟩
  have HST := Lib.hid (HS.out.turn HFAR.out hkp hat (by omega))
  clear hat hkp hsz hsk HS
  go_wp2_with fail
  exact HKK.out _ _ ⟨rfl, rfl, rfl, rfl, rfl, rfl, rfl, rfl, rfl, rfl, rfl⟩ HST.out rfl rfl
theorem skiploop {k : Kn} {p t mk lo : Nat} {s0 s1 s2 : Int} {L0 : List Value} {w1 : World} (hC : Cx k p mk lo s0 s1 s2 L0 w1) {sg : Bool} {c u col n : Nat} {ds r2 s lb tb ws : List Int} {sv lbv tbv wsv : Value} {lbr : Bool} {a : Act} {w : World} {K : Act → World → Prop} {Q : Exit → Act → World → Prop} (hS : St k p lo L0 w1 c u col (ds ++ r2) s lb tb ws sv lbv tbv wsv w) (hF : Fm sg p t mk sv lbv tbv wsv lbr a) (hd : ∀ x ∈ ds, x < 128) (hn : ds.length = n) (hn8 : n ≤ 8) (hu : n ≤ u) (h13 : gt a 13 = .int .i64 (n : Nat)) (h16 : gt a 16 = .int .i64 ((0 : Nat) : Int))
    (hK : ∀ a' w', Fm sg p t mk sv lbv tbv wsv lbr a' → St k p lo L0 w1 (c + n) (u - n) (col + n) r2 s lb tb ws sv lbv tbv wsv w' → K a' w') :
    (Code.block 7 (Code.loop cN7)).wp Tryd.prog (Exit.then K Q) a w := by
  refine wp_block ?_
  refine wp_loop_ghost_k (fun g a2 w2 => ∃ i, g = n - i ∧ i ≤ n ∧ Fm sg p t mk sv lbv tbv wsv lbr a2 ∧ St k p lo L0 w1 (c + i) (u - i) (col + i) (ds.drop i ++ r2) s lb tb ws sv lbv tbv wsv w2 ∧ gt a2 13 = .int .i64 (n : Nat) ∧ gt a2 16 = .int .i64 (i : Nat)) n ⟨0, rfl, Nat.zero_le _, hF, hS, h13, h16⟩ ?_
  rintro g a2 w2 ⟨i, rfl, hi, hF2, hS2, e13, e16⟩ J K2 hJ hK2
  rw [cN7_eq]
  by_cases hlt : i < n
  · refine wp_seq (s108_in hC hF2 e13 e16 hlt hn8 fun a3 hF3 f13 f16 => ?_)
    have hdr : ds.drop i = ds[i]'(by omega) :: ds.drop (i + 1) := List.drop_eq_getElem_cons (by omega)
    have hx := hd (ds[i]'(by omega)) (List.getElem_mem _)
    rw [hdr, show u - i = (u - (i + 1)) + 1 by omega] at hS2
    refine wp_seq (wp_block ?_)
    rw [then_block]
    refine s110n hC hF3 hS2 f13 f16 fun a4 w4 hF4 hS4 g13 g16 => ?_
    rw [u8_1 hx] at hS4
    refine s109 hC hF4 g13 g16 (by omega) fun a5 hF5 i13 i16 => ?_
    exact hK2 _ _ (Handed.intro (n - (i + 1)) (by omega) (hJ _ _ _ ⟨i + 1, rfl, by omega, hF5, hS4, i13, i16⟩))
  · obtain rfl : i = n := by omega
    refine wp_seq (s108_out hC hF2 e13 e16 rfl hn8 fun a3 hF3 f13 f16 => ?_)
    rw [List.drop_of_length_le (by omega)] at hS2
    exact hK a3 w2 hF3 hS2
theorem sNum {k : Kn} {p t mk lo : Nat} {s0 s1 s2 : Int} {L0 : List Value} {w1 : World} (hC : Cx k p mk lo s0 s1 s2 L0 w1) {sg : Bool} {c u col n : Nat} {rest s : List Int} {sv lbv tbv wsv : Value} {lbr : Bool} {a : Act} {w : World} {K : Act → World → Prop} {Q : Exit → Act → World → Prop} (hS : St k p lo L0 w1 c u col rest s [] [] [] sv lbv tbv wsv w) (hF : Fm sg p t mk sv lbv tbv wsv lbr a) (hL : Lfd rest) (hne : rest ≠ []) (hn1 : 1 ≤ n) (hn : n ≤ 8) (hb : s.length + 4 ≤ 4 * c) (h13 : gt a 13 = .int .i64 (n : Nat))
    (hK : ∀ ds r2 v a' w' u' v', rest = ds ++ r2 → ds.length = n → Hex ds v → v ≤ 1114111 → (v < 55296 ∨ 57343 < v) → Fm sg p t mk v' lbv tbv wsv lbr a' → St k p lo L0 w1 (c + n) u' (col + n) r2 (s ++ u8 v) [] [] [] v' lbv tbv wsv w' → K a' w')
    (hX : (∀ ds r2 v, rest = ds ++ r2 → ds.length = n → Hex ds v → ¬ (v ≤ 1114111 ∧ (v < 55296 ∨ 57343 < v))) → ∀ a' w', a'.defers = [] → gt a' 6 = .bool false → Er k p w1 w' → Q .ret a' w') :
    cNum.wp Tryd.prog (Exit.then K Q) a w := by
  rw [cNum_eq]
  refine wp_seq (s81 hC hF h13 fun a1 hF1 e13 e14 => ?_)
  refine wp_seq (u82 hC hF1 hS hn1 hn e13 fun a2 w2 u2 hF2 hS2 hR hu2 f13 f14 => ?_)
  refine wp_seq (wp_seq (s84 hC hF2 f13 (f14.trans e14) fun a3 hF3 g13 g14 g15 => ?_))
  refine hexloop hC hS2 hF3 hR hL hne hn1 hn g13 g14 g15 ?_ ?_
  · intro ds r2 v a4 w4 hrest hdl hh hF4 hS4 i13 i14
    have hv0 := (hex_bound hh).1
    refine wp_seq (s91 hC hF4 hS4 hv0 i13 i14 ?_ ?_)
    · intro hv1 hv2 a5 hF5 l13 l14
      have go : ∀ a6 w6 v6, Fm sg p t mk v6 lbv tbv wsv lbr a6 → St k p lo L0 w1 c u2 col rest (s ++ u8 v) [] [] [] v6 lbv tbv wsv w6 → gt a6 13 = .int .i64 (n : Nat) → Code.wp Tryd.prog (.seq c107 (.block 7 (.loop cN7))) (Exit.then K Q) a6 w6 := by
        intro a6 w6 v6 hF6 hS6 m13
        refine wp_seq (s107 hC hF6 m13 fun a7 hF7 n13 n16 => ?_)
        subst hrest
        refine skiploop hC hS6 hF7 (fun x hx => (hex_ascii hh x hx).2) hdl hn (hS6.here.has hR (Nat.le_refl _) (by simp; omega)) n13 n16 fun a8 w8 hF8 hS8 => ?_
        exact hK ds r2 v a8 w8 _ v6 rfl hdl hh hv1 hv2 hF8 hS8
      refine wp_seq ?_
      have hb' : s.length + ([] : List Int).length + ([] : List Int).length + ([] : List Int).length + 4 ≤ 4 * c := by simp only [List.length_nil]; omega
      by_cases q1 : v ≤ 127
      · exact s94_1 hC hF5 hS4 hv0 q1 hb' l13 l14 go
      by_cases q2 : v ≤ 2047
      · exact s94_2 hC hF5 hS4 hv0 ⟨by omega, q2⟩ hb' l13 l14 go
      by_cases q3 : v ≤ 65535
      · exact s94_3 hC hF5 hS4 hv0 ⟨by omega, q3⟩ hb' l13 l14 go
      · exact s94_4 hC hF5 hS4 hv0 ⟨by omega, hv1⟩ hb' l13 l14 go
    · intro hno a5 w5 q1 q2 q3
      refine hX ?_ a5 w5 q1 q2 q3
      intro ds' r' v' e hl' hh'
      have : ds' = ds := by
        have := List.append_inj (e.symm.trans hrest) (by omega)
        exact this.1
      subst this
      rw [← hex_unique hh hh']
      exact hno
  · intro hno a4 w4 q1 q2 q3
    exact hX (fun ds r2 v e hl hh => absurd hh (hno ds r2 v e hl)) a4 w4 q1 q2 q3
end Go.Proofs.YtocbbekciphjgaaDoor.Qd
