/- The law's texts (FnVersionsScanned): plain laws. -/
import Derived.Test.YtocbbekciphjgaaDoorScH
import Derived.Test.YtocbbekciphjgaaDoorScJ
namespace Go.Proofs.YtocbbekciphjgaaDoor.Sc
open Go.RowKit Go.Proofs.YtocbbekciphjgaaDoor.Rdp Go.Proofs.YtocbbekciphjgaaDoor.Pa
set_option linter.unusedVariables false
set_option linter.unusedSimpArgs false
theorem S_mid (A B C : List Int) (i : Nat) (hi : i < B.length) : S (A ++ (B ++ C)) (A.length + i) = S B i := by
  unfold S
  simp only [List.getD_eq_getElem?_getD]
  rw [List.getElem?_append_right (by omega), show A.length + i - A.length = i by omega, List.getElem?_append_left hi]
theorem S_at (A B : List Int) (x : Int) : S (A ++ (x :: B)) A.length = x := by
  unfold S
  simp only [List.getD_eq_getElem?_getD]
  rw [List.getElem?_append_right (by omega)]
  simp
theorem S_left (A B : List Int) (i : Nat) (hi : i < A.length) : S (A ++ B) i = S A i := by
  unfold S
  simp only [List.getD_eq_getElem?_getD]
  rw [List.getElem?_append_left hi]
theorem S_right (A B : List Int) (i : Nat) : S (A ++ B) (A.length + i) = S B i := by
  unfold S
  simp only [List.getD_eq_getElem?_getD]
  rw [List.getElem?_append_right (by omega), show A.length + i - A.length = i by omega]
theorem numv_congr (T B : List Int) (c : Nat) : ∀ n, (∀ i, i < n → S T (c + i) = S B i) → numv T c n = numv B 0 n
  | 0, _ => rfl
  | n + 1, h => by
    have h1 := numv_congr T B c n (fun i hi => h i (by omega))
    have h2 := h n (by omega)
    unfold numv
    rw [h1, h2, Nat.zero_add]
theorem dig_len (n : Nat) : 1 ≤ (dig n).length ∧ (dig n).length ≤ 2 := by
  unfold dig
  split <;> simp
theorem dig_num (n : Nat) (hn : n < 100) : numv (dig n) 0 (dig n).length = n := by
  unfold dig
  split
  · simp [numv, S]; omega
  · simp [numv, S]; omega
theorem dig_is (n : Nat) (hn : n < 100) (i : Nat) (hi : i < (dig n).length) : 48 ≤ S (dig n) i ∧ S (dig n) i ≤ 57 := by
  unfold dig at hi ⊢
  split at hi
  · next h =>
    rw [if_pos h]
    have : i = 0 := by simp at hi; omega
    subst this
    simp [S]; omega
  · next h =>
    rw [if_neg h]
    have : i = 0 ∨ i = 1 := by simp at hi; omega
    rcases this with rfl | rfl
    · simp [S]; omega
    · simp [S]; omega
theorem is_digit {x : Int} (h : 48 ≤ x ∧ x ≤ 57) : isDigit x = true := by
  unfold isDigit
  rw [decide_eq_true h.1, decide_eq_true h.2]
  rfl
theorem dig_ok (n : Nat) (hn : n < 100) : ∀ x, x ∈ dig n → 48 ≤ x ∧ x ≤ 57 := fun x hx => by
  obtain ⟨i, hi, rfl⟩ := List.getElem_of_mem hx
  have := dig_is n hn i hi
  unfold S at this
  rw [List.getD_eq_getElem?_getD, List.getElem?_eq_getElem hi] at this
  exact this
theorem all_S {T : List Int} {P : Int → Prop} (h : ∀ x, x ∈ T → P x) (i : Nat) (hi : i < T.length) : P (S T i) := by
  unfold S
  rw [List.getD_eq_getElem?_getD, List.getElem?_eq_getElem hi]
  exact h _ (List.getElem_mem hi)
/-- What a version's text is. -/
structure Txt (T : List Int) (s mj mn nn n1 n2 : Nat) : Prop where
  len : T.length ≤ 1000
  range : ∀ x, x ∈ T → 0 ≤ x ∧ x < 256
  asc : ∀ i, i < T.length → Ok1 (S T i)
  s3 : s ≤ 3
  bl : ∀ i, i < s → S T (0 + i) = 32
  l1 : 1 ≤ n1
  l2 : n1 ≤ 2
  d1 : ∀ i, i < n1 → isDigit (S T (0 + s + i)) = true
  dot : S T (0 + s + n1) = 46
  l3 : 1 ≤ n2
  l4 : n2 ≤ 2
  d2 : ∀ i, i < n2 → isDigit (S T (0 + s + n1 + 1 + i)) = true
  fin : isDigit (S T (0 + s + n1 + 1 + n2)) = false
  v1 : numv T (0 + s) n1 = mj
  v2 : numv T (0 + s + n1 + 1) n2 = mn
  all : s + n1 + 1 + n2 = nn
theorem txt (s mj mn : Nat) (tail : List Int) (hs : s ≤ 3) (hj : mj < 100) (hn : mn < 100) (htl : tail.length ≤ 10) (ht : ∀ x, x ∈ tail → Ok1 x) (hh : isDigit (S tail 0) = false) :
    Txt (List.replicate s 32 ++ dig mj ++ [46] ++ dig mn ++ tail) s mj mn (List.replicate s (32 : Int) ++ dig mj ++ [46] ++ dig mn).length (dig mj).length (dig mn).length := by
  have a1 := dig_len mj
  have a2 := dig_len mn
  have hok : ∀ x, x ∈ List.replicate s 32 ++ dig mj ++ [46] ++ dig mn ++ tail → Ok1 x := fun x hx => by
    simp only [List.mem_append, List.mem_replicate, List.mem_singleton] at hx
    rcases hx with (((⟨_, rfl⟩ | h) | rfl) | h) | h
    · unfold Ok1; omega
    · have := dig_ok mj hj x h; unfold Ok1; omega
    · unfold Ok1; omega
    · have := dig_ok mn hn x h; unfold Ok1; omega
    · exact ht x h
  have sl : (List.replicate s (32 : Int)).length = s := List.length_replicate
  have g1 : ∀ i, i < (dig mj).length → S (List.replicate s 32 ++ dig mj ++ [46] ++ dig mn ++ tail) (0 + s + i) = S (dig mj) i := fun i hi => by
    have := S_mid (List.replicate s 32) (dig mj) ([46] ++ (dig mn ++ tail)) i hi
    rw [sl] at this
    rw [Nat.zero_add]
    simp only [List.append_assoc]
    exact this
  have g2 : ∀ i, i < (dig mn).length → S (List.replicate s 32 ++ dig mj ++ [46] ++ dig mn ++ tail) (0 + s + (dig mj).length + 1 + i) = S (dig mn) i := fun i hi => by
    have := S_mid (List.replicate s 32 ++ dig mj ++ [46]) (dig mn) tail i hi
    simp only [List.length_append, sl, List.length_singleton] at this
    rw [Nat.zero_add]
    simp only [List.append_assoc] at this ⊢
    exact this
  have g3 : S (List.replicate s 32 ++ dig mj ++ [46] ++ dig mn ++ tail) (0 + s + (dig mj).length + 1 + (dig mn).length) = S tail 0 := by
    have := S_right (List.replicate s 32 ++ dig mj ++ [46] ++ dig mn) tail 0
    simp only [List.length_append, sl, List.length_singleton, Nat.add_zero] at this
    rw [Nat.zero_add]
    exact this
  have g4 : S (List.replicate s 32 ++ dig mj ++ [46] ++ dig mn ++ tail) (0 + s + (dig mj).length) = 46 := by
    have := S_at (List.replicate s 32 ++ dig mj) (dig mn ++ tail) 46
    simp only [List.length_append, sl] at this
    rw [Nat.zero_add]
    simp only [List.append_assoc, List.singleton_append, List.cons_append, List.nil_append] at this ⊢
    exact this
  have g0 : ∀ i, i < s → S (List.replicate s 32 ++ dig mj ++ [46] ++ dig mn ++ tail) (0 + i) = 32 := fun i hi => by
    have := S_left (List.replicate s 32) (dig mj ++ ([46] ++ (dig mn ++ tail))) i (by rw [sl]; exact hi)
    rw [Nat.zero_add]
    simp only [List.append_assoc] at this ⊢
    rw [this]
    unfold S
    rw [List.getD_eq_getElem?_getD, List.getElem?_replicate, if_pos hi]
    rfl
  refine ⟨?_, fun x hx => ?_, fun i hi => all_S hok i hi, hs, g0, a1.1, a1.2, fun i hi => ?_, g4, a2.1, a2.2, fun i hi => ?_, ?_, ?_, ?_, ?_⟩
  · simp only [List.length_append, sl, List.length_singleton]; omega
  · have := hok x hx; unfold Ok1 at this; omega
  · rw [g1 i hi]; exact is_digit (dig_is mj hj i hi)
  · rw [g2 i hi]; exact is_digit (dig_is mn hn i hi)
  · rw [g3]; exact hh
  · rw [numv_congr _ (dig mj) _ _ g1, dig_num mj hj]
  · rw [numv_congr _ (dig mn) _ _ g2, dig_num mn hn]
  · simp only [List.length_append, sl, List.length_singleton]
/-- What the other text is. -/
structure Bad (T : List Int) (n1 : Nat) : Prop where
  len : T.length ≤ 1000
  range : ∀ x, x ∈ T → 0 ≤ x ∧ x < 256
  asc : ∀ i, i < T.length → Ok1 (S T i)
  bl : ∀ i, i < 0 → S T (0 + i) = 32
  l1 : 1 ≤ n1
  l2 : n1 ≤ 2
  d1 : ∀ i, i < n1 → isDigit (S T (0 + 0 + i)) = true
  dot : S T (0 + 0 + n1) ≠ 46
  fin : isDigit (S T (0 + 0 + n1)) = false
theorem bad (mj : Nat) (hj : mj < 100) : Bad (dig mj ++ [10]) (dig mj).length := by
  have a1 := dig_len mj
  have hok : ∀ x, x ∈ dig mj ++ [10] → Ok1 x := fun x hx => by
    simp only [List.mem_append, List.mem_singleton] at hx
    rcases hx with h | rfl
    · have := dig_ok mj hj x h; unfold Ok1; omega
    · unfold Ok1; omega
  have g4 : S (dig mj ++ [10]) (0 + 0 + (dig mj).length) = 10 := by
    rw [Nat.zero_add]
    exact S_at (dig mj) [] 10
  refine ⟨?_, fun x hx => ?_, fun i hi => all_S hok i hi, fun i hi => by omega, a1.1, a1.2, fun i hi => ?_, ?_, ?_⟩
  · simp; omega
  · have := hok x hx; unfold Ok1 at this; omega
  · rw [Nat.zero_add, S_left _ _ _ hi]; exact is_digit (dig_is mj hj i hi)
  · rw [g4]; omega
  · rw [g4]; rfl
end Go.Proofs.YtocbbekciphjgaaDoor.Sc
