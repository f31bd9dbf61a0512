/- Numbers as digits of a base, and what digits are worth: plain laws. -/
import Derived.Test.YtpdfamigmkeflaaDoorRows
import Derived.Lib.ItoaNum
import Derived.Lib.Hide
namespace Go.Proofs.YtpdfamigmkeflaaDoor.Ri
open Go.RowKit
set_option linter.unusedVariables false
set_option linter.unusedSimpArgs false
/-- A text of these bytes. -/
def S (l : List UInt8) : ByteArray := ⟨l.toArray⟩
theorem S_size (l : List UInt8) : (S l).size = l.length := by unfold S ByteArray.size; simp
theorem S_get (l : List UInt8) (i : Nat) (h : i < l.length) : (S l)[i]'(by rw [S_size]; exact h) = l[i] := by
  unfold S
  simp [ByteArray.getElem_eq_getElem_data]
theorem S_append (a b : List UInt8) : S a ++ S b = S (a ++ b) := by
  apply ByteArray.ext
  rw [ByteArray.data_append]
  simp [S]
theorem S_extract (a b : List UInt8) : (S (a ++ b)).extract a.length (S (a ++ b)).size = S b := by
  apply ByteArray.ext
  rw [ByteArray.data_extract, S_size]
  simp [S]
/-- A digit as it is written. -/
def dgu (d : Nat) : UInt8 := UInt8.ofNat (if d < 10 then 48 + d else 87 + d)
/-- What it is worth. -/
def dv (c : UInt8) : Nat := if c.toNat ≤ 57 then c.toNat - 48 else c.toNat - 87
theorem dgu_nat (d : Nat) (h : d < 16) : (dgu d).toNat = if d < 10 then 48 + d else 87 + d := by
  unfold dgu
  rw [UInt8.toNat_ofNat']
  split <;> omega
theorem dv_dgu (d : Nat) (h : d < 16) : dv (dgu d) = d := by
  unfold dv
  rw [dgu_nat d h]
  split <;> split <;> omega
/-- What digits are worth together. -/
def val (b : Nat) (l : List UInt8) : Nat := l.foldl (fun a c => a * b + dv c) 0
theorem val_snoc (b : Nat) (l : List UInt8) (c : UInt8) : val b (l ++ [c]) = val b l * b + dv c := by
  unfold val
  rw [List.foldl_append]
  rfl
theorem val_take (b : Nat) (l : List UInt8) (i : Nat) (h : i < l.length) : val b (l.take (i + 1)) = val b (l.take i) * b + dv l[i] := by
  rw [List.take_add_one, List.getElem?_eq_getElem h]
  exact val_snoc b _ _
theorem val_le (b : Nat) (hb : 1 ≤ b) (l : List UInt8) : ∀ (k i : Nat), i + k = l.length → val b (l.take i) ≤ val b l
  | 0, i, h => by rw [List.take_of_length_le (by omega)]; exact Nat.le_refl _
  | k + 1, i, h => by
    have h1 := val_le b hb l k (i + 1) (by omega)
    rw [val_take b l i (by omega)] at h1
    have h2 : val b (l.take i) ≤ val b (l.take i) * b := Nat.le_mul_of_pos_right _ hb
    omega
/-- The digits of a number, the greatest first. -/
def dig (b : Nat) : Nat → Nat → List UInt8
  | 0, _ => []
  | n + 1, u => if u < b then [dgu u] else dig b n (u / b) ++ [dgu (u % b)]
theorem dig_val (b : Nat) (hb : 2 ≤ b) (hb2 : b ≤ 16) : ∀ (n u : Nat), 1 ≤ n → u < b ^ n → val b (dig b n u) = u
  | 0, u, h, _ => by omega
  | n + 1, u, _, hu => by
    unfold dig
    by_cases h : u < b
    · rw [if_pos h]
      show 0 * b + dv (dgu u) = u
      rw [dv_dgu u (by omega)]
      omega
    · rw [if_neg h, val_snoc]
      have hn : 1 ≤ n := by
        cases n with
        | zero => rw [Nat.pow_one] at hu; omega
        | succ n => omega
      rw [Nat.pow_succ] at hu
      rw [dig_val b hb hb2 n (u / b) hn (Nat.div_lt_of_lt_mul (by rw [Nat.mul_comm]; exact hu)), dv_dgu _ (by have := Nat.mod_lt u (show 0 < b by omega); omega)]
      rw [Nat.mul_comm]
      exact Nat.div_add_mod u b
/-- Digits of a base. -/
def Dg (b : Nat) (l : List UInt8) : Prop := ∀ c ∈ l, ∃ d, d < b ∧ c = dgu d
theorem dig_dg (b : Nat) (hb : 2 ≤ b) : ∀ (n u : Nat), Dg b (dig b n u)
  | 0, u => by intro c hc; simp [dig] at hc
  | n + 1, u => by
    intro c hc
    unfold dig at hc
    by_cases h : u < b
    · rw [if_pos h, List.mem_singleton] at hc
      exact ⟨u, h, hc⟩
    · rw [if_neg h, List.mem_append, List.mem_singleton] at hc
      rcases hc with hc | hc
      · exact dig_dg b hb n _ c hc
      · exact ⟨_, Nat.mod_lt u (by omega), hc⟩
theorem dig_pos (b : Nat) (n u : Nat) (h : 1 ≤ n) : 1 ≤ (dig b n u).length := by
  cases n with
  | zero => omega
  | succ n =>
    unfold dig
    split <;> simp
theorem dig_len (b : Nat) : ∀ (n u : Nat), (dig b n u).length ≤ n
  | 0, u => by simp [dig]
  | n + 1, u => by
    unfold dig
    split
    · simp
    · have := dig_len b n (u / b)
      simp
      omega
open Go.Lib in
theorem dec_val (u : Nat) : val 10 (decDigits u) = u ∧ Dg 10 (decDigits u) ∧ 1 ≤ (decDigits u).length := by
  induction u using Nat.strongRecOn with
  | _ u ih =>
    rw [decDigits]
    by_cases h : u < 10
    · rw [dif_pos h]
      have e : UInt8.ofNat (48 + u) = dgu u := by unfold dgu; rw [if_pos h]
      rw [e]
      refine ⟨?_, ?_, by simp⟩
      · show 0 * 10 + dv (dgu u) = u
        rw [dv_dgu u (by omega)]
        omega
      · intro c hc
        rw [List.mem_singleton] at hc
        exact ⟨u, h, hc⟩
    · rw [dif_neg h]
      obtain ⟨i1, i2, i3⟩ := ih (u / 10) (by omega)
      have hm : u % 10 < 10 := by omega
      have e : UInt8.ofNat (48 + u % 10) = dgu (u % 10) := by unfold dgu; rw [if_pos hm]
      rw [e]
      refine ⟨?_, ?_, by simp⟩
      · rw [val_snoc, i1, dv_dgu _ (by omega)]
        omega
      · intro c hc
        rw [List.mem_append, List.mem_singleton] at hc
        rcases hc with hc | hc
        · exact i2 c hc
        · exact ⟨_, hm, hc⟩
open Go.Lib in
theorem dec_head (u : Nat) (h0 : 1 ≤ u) : ∃ d r, 1 ≤ d ∧ d < 10 ∧ decDigits u = dgu d :: r := by
  induction u using Nat.strongRecOn with
  | _ u ih =>
    rw [decDigits]
    by_cases h : u < 10
    · rw [dif_pos h]
      have e : UInt8.ofNat (48 + u) = dgu u := by unfold dgu; rw [if_pos h]
      exact ⟨u, [], h0, h, by rw [e]⟩
    · rw [dif_neg h]
      obtain ⟨d, r, h1, h2, h3⟩ := ih (u / 10) (by omega) (by omega)
      exact ⟨d, r ++ _, h1, h2, by rw [h3]; rfl⟩
open Go.Lib in
theorem dec_len (u : Nat) : ∀ k, 1 ≤ k → u < 10 ^ k → (decDigits u).length ≤ k := by
  induction u using Nat.strongRecOn with
  | _ u ih =>
    intro k hk hu
    rw [decDigits]
    by_cases h : u < 10
    · rw [dif_pos h]
      simp
      omega
    · rw [dif_neg h]
      cases k with
      | zero => omega
      | succ k =>
        have hk1 : 1 ≤ k := by
          cases k with
          | zero => rw [Nat.pow_one] at hu; omega
          | succ k => omega
        rw [Nat.pow_succ] at hu
        have := ih (u / 10) (by omega) k hk1 (by omega)
        simp
        omega
end Go.Proofs.YtpdfamigmkeflaaDoor.Ri
