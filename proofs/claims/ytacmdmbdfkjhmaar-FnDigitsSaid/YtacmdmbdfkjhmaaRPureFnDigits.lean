/- For every text and index: the worth of a digit and of a hex digit that the thin package tells is the reference's; outside of the text both are 0. No further condition. -/
import Derived.Test.YtacmdmbdfkjhmaaRPFnDigitsx1
import Derived.Lib.Strings
namespace Go.Proofs.YtacmdmbdfkjhmaaR.Pure
open Go.RowKit Go.Proofs.YtacmdmbdfkjhmaaR.PFnDigits Go.Proofs.YtacmdmbdfkjhmaaRW.PrintWords Go.Proofs.YtacmdmbdfkjhmaaRW.PrintLast

theorem rd_byte {l0 : List Int} (hw : ∀ x ∈ l0, (Lit.int .u8 x).wf = true) {i : Int} (h0 : 0 ≤ i) (h1 : i < (l0.length : Int)) : 0 ≤ rd l0 i ∧ rd l0 i ≤ 255 := by
  have hi : i.toNat < l0.length := by omega
  have hm : rd l0 i ∈ l0 := by
    unfold rd
    rw [List.getD_eq_getElem?_getD, List.getElem?_eq_getElem hi]
    exact List.getElem_mem hi
  have := hw _ hm
  simp [Lit.wf, IntKind.min, IntKind.max, IntKind.signed, IntKind.bits] at this
  omega

theorem hex_tells (k : Nat) (l0 : List Int) (i : Int) (x : Int) (h0 : 0 ≤ i) (h1 : i < (l0.length : Int)) (hx : rd l0 i = x) (hb : 0 ≤ x ∧ x ≤ 255) :
    impl_Hex.f (k + 3) l0 i = some (if 65 ≤ x ∧ x ≤ 70 then x - 55 else if 97 ≤ x ∧ x ≤ 102 then x - 87 else x - 48) := by
  have w0 : wrap64 x = x := by unfold wrap64; omega
  have w1 : wrap64 (x - 65) = x - 65 := by unfold wrap64; omega
  have w2 : wrap64 (x - 65 + 10) = x - 55 := by unfold wrap64; omega
  have w3 : wrap64 (x - 97) = x - 97 := by unfold wrap64; omega
  have w4 : wrap64 (x - 97 + 10) = x - 87 := by unfold wrap64; omega
  have w5 : wrap64 (x - 48) = x - 48 := by unfold wrap64; omega
  unfold impl_Hex.f yaml_ZzAsHex.f yaml_as_hex.f
  rw [if_neg (by omega), if_neg (by omega), if_pos h0, if_pos h1, hx]
  simp only [yaml_as_hex.j0, w0, w1, w2, w3, w4, w5]
  by_cases a : x ≥ 65
  · by_cases b : x ≤ 70
    · simp [a, b]
    · by_cases c : x ≥ 97
      · by_cases d : x ≤ 102 <;> simp [a, b, c, d]
      · simp [a, b, c]
  · have c : ¬ x ≥ 97 := by omega
    simp [a, c]

theorem worth_tells (k : Nat) (x : Int) (hb : 0 ≤ x ∧ x ≤ 255) :
    spec_HexWorth.f (k + 3) x = some (if 48 ≤ x ∧ x ≤ 57 then x - 48 else if 97 ≤ x ∧ x ≤ 102 then x - 87 else if 65 ≤ x ∧ x ≤ 70 then x - 55 else -1) := by
  unfold spec_HexWorth.f
  simp only [spec_HexWorth.j0, spec_HexWorth.j1]
  by_cases a : 48 ≤ x
  · by_cases b : x ≤ 57
    · simp [a, b]; omega
    · by_cases c : 97 ≤ x
      · by_cases d : x ≤ 102
        · simp [a, b, c, d]; omega
        · have e : ¬ x ≤ 70 := by omega
          simp [a, b, c, d, e]
      · by_cases d : 65 ≤ x
        · by_cases e : x ≤ 70
          · simp [a, b, c, d, e]; omega
          · simp [a, b, c, d, e]
        · simp [a, b, c, d]
  · have c : ¬ 97 ≤ x := by omega
    have d : ¬ 65 ≤ x := by omega
    simp [a, c, d]

theorem FnDigits : laws_FnDigits.Pure := by
  intro l0 a1 hm h0 hw ha
  refine ⟨5, ?_⟩
  unfold laws_FnDigits.f
  by_cases h : (l0.length : Int) > 2147483647
  · rw [if_pos h]
  rw [if_neg h]
  by_cases h1 : a1 < 0
  · rw [if_pos h1]
    simp [laws_FnDigits.j0, impl_Digit.f, impl_Hex.f, h1]
  rw [if_neg h1]
  by_cases h2 : a1 ≥ (l0.length : Int)
  · simp [laws_FnDigits.j0, impl_Digit.f, impl_Hex.f, h1, h2]
  have h3 : 0 ≤ a1 := by omega
  have h4 : a1 < (l0.length : Int) := by omega
  have hb := rd_byte hw h3 h4
  obtain ⟨x, hx⟩ : ∃ x, rd l0 a1 = x := ⟨_, rfl⟩
  rw [hx] at hb
  have e1 := hex_tells 1 l0 a1 x h3 h4 hx hb
  have e2 := worth_tells 1 x hb
  have w0 : wrap64 x = x := by unfold wrap64; omega
  have w5 : wrap64 (x - 48) = x - 48 := by unfold wrap64; omega
  have e3 : impl_Digit.f l0 a1 = some (x - 48) := by
    unfold impl_Digit.f yaml_ZzAsDigit.f yaml_as_digit.f
    rw [if_neg h1, if_neg h2, if_pos h3, if_pos h4, hx, w0, w5]; rfl
  have hd : decide (a1 ≥ (l0.length : Int)) = false := by simp; omega
  rw [hd]
  simp only [laws_FnDigits.j0, hx, e1, e2, e3, Option.bind_some]
  rw [if_neg (by simp), if_pos h3, if_pos h4]
  by_cases a : 48 ≤ x ∧ x ≤ 57
  · rw [if_pos a, if_neg (by omega), if_neg (by omega : ¬ (65 ≤ x ∧ x ≤ 70)), if_neg (by omega : ¬ (97 ≤ x ∧ x ≤ 102)), if_pos rfl, if_neg (by omega)]
    simp
  rw [if_neg a]
  by_cases b : 97 ≤ x ∧ x ≤ 102
  · rw [if_pos b, if_neg (by omega), if_neg (by omega : ¬ (65 ≤ x ∧ x ≤ 70)), if_pos b, if_pos rfl, if_pos (by omega)]
  rw [if_neg b]
  by_cases c : 65 ≤ x ∧ x ≤ 70
  · rw [if_pos c, if_neg (by omega), if_pos c, if_pos rfl, if_pos (by omega)]
  rw [if_neg c, if_pos (by omega)]

end Go.Proofs.YtacmdmbdfkjhmaaR.Pure
