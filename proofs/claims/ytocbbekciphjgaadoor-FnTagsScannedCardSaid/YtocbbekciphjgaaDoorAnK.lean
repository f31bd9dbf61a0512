/- The law's texts (FnAnchorsScanned): plain laws. -/
import Derived.Test.YtocbbekciphjgaaDoorAnG
import Derived.Test.YtocbbekciphjgaaDoorScK
import Derived.Test.YtocbbekciphjgaaDoorNd
namespace Go.Proofs.YtocbbekciphjgaaDoor.An
open Go.RowKit Go.Proofs.YtocbbekciphjgaaDoor.Rdp Go.Proofs.YtocbbekciphjgaaDoor.Pa Go.Proofs.YtocbbekciphjgaaDoor.Sc
set_option linter.unusedVariables false
set_option linter.unusedSimpArgs false
/-- The name of a text, letter by letter. -/
theorem name_list (s : ByteArray) : ∃ nl : List Int, Nd.nm s = strOfNums nl ∧ 1 ≤ nl.length ∧ nl.length ≤ 8 ∧ ∀ x ∈ nl, Al.al x = true := by
  by_cases h : Nd.got s s.size = []
  · exact ⟨[120], by rw [Nd.nm_x h]; rfl, by simp, by simp, fun x hx => by simp at hx; subst hx; rfl⟩
  · refine ⟨Nd.got s s.size, Nd.nm_ne h, ?_, Nd.got_len s _, fun x hx => (Nd.got_range s _ x hx).2.2⟩
    exact List.length_pos_iff.2 h
/-- What stands behind a name. -/
def tail (d : Nat) : List Int := match d with
  | 0 => []
  | 1 => [32]
  | 2 => [9]
  | 3 => [10]
  | 4 => [13, 10]
  | 5 => [44]
  | 6 => [93]
  | 7 => [125]
  | 8 => [32, 120]
  | 9 => [44, 32, 120]
  | _ => [10, 38, 120]
theorem tail_ok (d : Nat) (hd : d < 11) : (tail d).length ≤ 3 ∧ (∀ x, x ∈ tail d → Ok1 x) ∧ ∃ x, S (tail d) 0 = x ∧ Al.al x = false ∧ 0 ≤ x ∧ x < 128 ∧ (isBlankz x = true ∨ (isBlankz x = false ∧ (x = 44 ∨ x = 93 ∨ x = 125))) := by
  have : d = 0 ∨ d = 1 ∨ d = 2 ∨ d = 3 ∨ d = 4 ∨ d = 5 ∨ d = 6 ∨ d = 7 ∨ d = 8 ∨ d = 9 ∨ d = 10 := by omega
  rcases this with rfl | rfl | rfl | rfl | rfl | rfl | rfl | rfl | rfl | rfl | rfl <;>
    refine ⟨by simp [tail], fun x hx => by (simp [tail] at hx <;> (unfold Ok1; omega)), _, rfl, rfl, by decide, by decide, ?_⟩ <;>
    first | exact .inl rfl | exact .inr ⟨rfl, .inl rfl⟩ | exact .inr ⟨rfl, .inr (.inl rfl)⟩ | exact .inr ⟨rfl, .inr (.inr rfl)⟩
/-- What an anchor's text is. -/
structure Text (T : List Int) (n : Nat) (x : Int) (nl : List Int) : Prop where
  len : T.length ≤ 1000
  range : ∀ x, x ∈ T → 0 ≤ x ∧ x < 256
  asc : ∀ i, i < T.length → Ok1 (S T i)
  first : cw (S T 0) = 1
  name : ∀ i, i < n → Al.al (S T (0 + 1 + i)) = true
  fin : S T (0 + 1 + n) = x
  list : ((List.range n).map fun j => S T (0 + 1 + j)) = nl
theorem text (c : Int) (hc : c = 38 ∨ c = 42) (nl : List Int) (h1 : 1 ≤ nl.length) (h8 : nl.length ≤ 8) (hal : ∀ x ∈ nl, Al.al x = true) (d : Nat) (hd : d < 11) : Text ([c] ++ nl ++ tail d) nl.length (S (tail d) 0) nl := by
  obtain ⟨t1, t2, _⟩ := tail_ok d hd
  have hok : ∀ x, x ∈ [c] ++ nl ++ tail d → Ok1 x := fun x hx => by
    simp only [List.mem_append, List.mem_singleton] at hx
    rcases hx with (rfl | h) | h
    · unfold Ok1; omega
    · have := hal x h
      unfold Al.al at this
      rw [decide_eq_true_eq] at this
      unfold Ok1
      omega
    · exact t2 x h
  have g1 : ∀ i, i < nl.length → S ([c] ++ nl ++ tail d) (0 + 1 + i) = S nl i := fun i hi => by
    rw [List.append_assoc]
    exact S_mid [c] nl (tail d) i hi
  refine ⟨by simp only [List.length_append, List.length_singleton]; omega, fun x hx => by have := hok x hx; unfold Ok1 at this; omega, fun i hi => all_S hok i hi, ?_, fun i hi => ?_, ?_, ?_⟩
  · have : S ([c] ++ nl ++ tail d) 0 = c := rfl
    rw [this]
    unfold cw
    rw [if_pos (by omega)]
  · rw [g1 i hi]
    exact all_S (P := fun x => Al.al x = true) hal i hi
  · have := S_right ([c] ++ nl) (tail d) 0
    simp only [List.length_append, List.length_singleton, Nat.add_zero] at this
    rw [Nat.zero_add]
    exact this
  · apply List.ext_getElem
    · simp
    · intro i hi1 hi2
      simp only [List.getElem_map, List.getElem_range]
      rw [g1 i hi2]
      unfold S
      rw [List.getD_eq_getElem?_getD, List.getElem?_eq_getElem hi2]
      rfl
end Go.Proofs.YtocbbekciphjgaaDoor.An
