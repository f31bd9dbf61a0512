/- Base 64: the walk of the reference's decoder over what the encoder wrote. -/
import Derived.Test.YtdkhpngcomagnaaB6B
import Derived.Laws.AppendOwn
import Derived.Lib.Strings
namespace Go.Proofs.Ytdkhpngcomagnaa.B6
open Go.RowKit
set_option linter.unusedVariables false
set_option linter.unusedSimpArgs false
theorem info3 : (Try.prog.info? 3).map (fun i => (i.zero, i.size, i.bytes)) = some (some (.int .i64 0), 1, 8) := by kernel_rfl
theorem info5 : (Try.prog.info? 5).map (fun i => (i.zero, i.size, i.bytes)) = some (some (.int .u8 0), 1, 1) := by kernel_rfl
/-- The cells of a new block. -/
theorem wpList_pushI {ops : Array Oper} {rest : List Oper} {o : Oper} {a : Act} {w : World} {Q : Exit → Act → World → Prop} (hgd : o.guard = none) (s x : Operand)
    (ho : o.op = .call { callee := .builtin .append, args := #[s, x], argTypes := #[26, 26] }) (base n : Nat) (v : Value) (xs : List Value) (hs : a.eval s = v) (hown : w.ownsRow base 3 1 v n xs)
    (b c : Nat) (q : Int) (hx : a.eval x = .slice (some ⟨b, 0, none⟩) 1 c) (hu : w.cell? ⟨b, 0, none⟩ = some (.int .i64 q)) (hn : n + 1 ≤ 1000000) (hbase : base ≤ w.heap.size)
    (h : ∀ v' w', w'.ownsRow base 3 1 v' (n + 1) (xs ++ [.int .i64 q]) → w.grownBy w' v.ownBlock → wpList Try.prog ops Q rest (a.put o.dst v') w') : wpList Try.prog ops Q (o :: rest) a w := by
  obtain ⟨i0, hi, hz0, hz1, hz2⟩ := info_parts info3
  refine wpList_append_own w hgd s x 26 ho base 3 i0 (.int .i64 0) 1 8 Try.underlying26 hi hz0 hz1 hz2 rfl (by decide) v n xs hs hown ⟨b, 0, none⟩ 1 c [.int .i64 q] hx rfl ?_ ?_ ?_ ?_ hbase (fun v' w' a b _ => h v' w' a b)
  · intro j y hy
    match j, hy with
    | 0, hy => simp at hy; subst hy; exact hu
    | j + 1, hy => simp at hy
  · intro y hy
    simp at hy
    subst hy
    rfl
  · unfold maxLen; omega
  · omega
theorem wpList_push3 {ops : Array Oper} {rest : List Oper} {o : Oper} {a : Act} {w : World} {Q : Exit → Act → World → Prop} (hgd : o.guard = none) (s x : Operand)
    (ho : o.op = .call { callee := .builtin .append, args := #[s, x], argTypes := #[27, 27] }) (base n : Nat) (v : Value) (xs : List Value) (hs : a.eval s = v) (hown : w.ownsRow base 5 1 v n xs)
    (b c : Nat) (q0 q1 q2 : Int) (hx : a.eval x = .slice (some ⟨b, 0, none⟩) 3 c) (h0 : w.cell? ⟨b, 0, none⟩ = some (.int .u8 q0)) (h1 : w.cell? ⟨b, 1, none⟩ = some (.int .u8 q1)) (h2 : w.cell? ⟨b, 2, none⟩ = some (.int .u8 q2)) (hn : n + 3 ≤ 1000000) (hbase : base ≤ w.heap.size)
    (h : ∀ v' w', w'.ownsRow base 5 1 v' (n + 3) (xs ++ [.int .u8 q0, .int .u8 q1, .int .u8 q2]) → w.grownBy w' v.ownBlock → wpList Try.prog ops Q rest (a.put o.dst v') w') : wpList Try.prog ops Q (o :: rest) a w := by
  obtain ⟨i0, hi, hz0, hz1, hz2⟩ := info_parts info5
  refine wpList_append_own w hgd s x 27 ho base 5 i0 (.int .u8 0) 1 1 Try.underlying27 hi hz0 hz1 hz2 rfl (by decide) v n xs hs hown ⟨b, 0, none⟩ 3 c [.int .u8 q0, .int .u8 q1, .int .u8 q2] hx rfl ?_ ?_ ?_ ?_ hbase (fun v' w' a b _ => h v' w' a b)
  · intro j y hy
    match j, hy with
    | 0, hy => simp at hy; subst hy; exact h0
    | 1, hy => simp at hy; subst hy; exact h1
    | 2, hy => simp at hy; subst hy; exact h2
    | j + 3, hy => simp at hy
  · intro y hy
    simp at hy
    rcases hy with rfl | rfl | rfl <;> rfl
  · unfold maxLen; omega
  · omega
/-- The sextet at a place. -/
def lv (s : ByteArray) (i : Nat) : Nat := if i % 4 = 0 then tri s (i / 4) / 262144 % 64 else if i % 4 = 1 then tri s (i / 4) / 4096 % 64 else if i % 4 = 2 then tri s (i / 4) / 64 % 64 else tri s (i / 4) % 64
/-- How many signs stand ahead of a place. -/
def pos (s : ByteArray) (x : Nat) : Nat := if x = full s then enl s else x - mlt s * (x / 71)
/-- How many signs are no digits, among the first so many. -/
def eqs (s : ByteArray) (p : Nat) : Nat := p - (enl s - (3 * (enl s / 4) - s.size))
theorem lv_lt (s : ByteArray) (i : Nat) : lv s i < 64 := by
  unfold lv
  split
  · omega
  · split
    · omega
    · split <;> omega
theorem pos_feed {s : ByteArray} {x : Nat} (hx : x < full s) (h : mlt s = 1 ∧ (x % 71 = 70 ∨ x + 1 = full s)) : pos s (x + 1) = pos s x ∧ ln s x = 10 := by
  obtain ⟨hm, h⟩ := h
  have hf : full s = enl s + (enl s + 69) / 70 := by unfold full; rw [hm]; omega
  have hsm : 70 ≤ enl s := by unfold mlt at hm; split at hm <;> omega
  refine ⟨?_, by unfold ln; rw [if_pos ⟨hm, h⟩]⟩
  unfold pos
  rw [hm, if_neg (show ¬ x = full s by omega)]
  by_cases e : x + 1 = full s
  · rw [if_pos e]; omega
  · rw [if_neg e]; omega
theorem pos_sign {s : ByteArray} {x : Nat} (hx : x < full s) (h : ¬ (mlt s = 1 ∧ (x % 71 = 70 ∨ x + 1 = full s))) : pos s (x + 1) = pos s x + 1 ∧ ln s x = eb s (pos s x) ∧ pos s x < enl s := by
  have hm2 : mlt s = 0 ∨ mlt s = 1 := by unfold mlt; split <;> omega
  have hp : pos s x = x - mlt s * (x / 71) := by unfold pos; rw [if_neg (by omega)]
  refine ⟨?_, by unfold ln; rw [if_neg h, hp], ?_⟩
  · rw [hp]
    unfold pos
    rcases hm2 with hm | hm
    · have hf : full s = enl s := by unfold full; rw [hm]; omega
      rw [hm]
      split <;> omega
    · have hf : full s = enl s + (enl s + 69) / 70 := by unfold full; rw [hm]; omega
      rw [if_neg (by omega), hm]
      omega
  · rw [hp]
    rcases hm2 with hm | hm
    · have hf : full s = enl s := by unfold full; rw [hm]; omega
      rw [hm]; omega
    · have hf : full s = enl s + (enl s + 69) / 70 := by unfold full; rw [hm]; omega
      rw [hm]; omega
theorem eb_lv {s : ByteArray} {i : Nat} (hi : i < enl s) : (eb s i = dg (lv s i) ∧ eqs s (i + 1) = 0) ∨ (eb s i = 61 ∧ lv s i = 0 ∧ eqs s (i + 1) = eqs s i + 1 ∧ eqs s i ≤ 1) := by
  have he : enl s = (s.size + 2) / 3 * 4 := rfl
  have b0 := fun j => (show tri.bt s j < 256 by unfold tri.bt; split; (have := UInt8.toNat_lt (s[j]'(by assumption)); omega); omega)
  have b1 := fun j (h : ¬ j < s.size) => (show tri.bt s j = 0 by unfold tri.bt; rw [dif_neg h])
  unfold eqs eb lv
  have h4 : i % 4 = 0 ∨ i % 4 = 1 ∨ i % 4 = 2 ∨ i % 4 = 3 := by omega
  rcases h4 with h4 | h4 | h4 | h4
  · rw [if_pos h4, if_pos h4]; exact .inl ⟨rfl, by omega⟩
  · rw [if_neg (by omega), if_pos h4, if_neg (by omega), if_pos h4]; exact .inl ⟨rfl, by omega⟩
  · simp only [show ¬ i % 4 = 0 by omega, show ¬ i % 4 = 1 by omega, eq_true h4, if_false, if_true]
    by_cases h : 3 * (i / 4) + 1 < s.size
    · rw [if_pos h]; exact .inl ⟨rfl, by omega⟩
    · rw [if_neg h]
      refine .inr ⟨rfl, ?_, by omega, by omega⟩
      unfold tri
      rw [b1 (3 * (i / 4) + 1) h, b1 (3 * (i / 4) + 2) (by omega)]
      have := b0 (3 * (i / 4))
      omega
  · simp only [show ¬ i % 4 = 0 by omega, show ¬ i % 4 = 1 by omega, show ¬ i % 4 = 2 by omega, if_false]
    by_cases h : 3 * (i / 4) + 2 < s.size
    · rw [if_pos h]; exact .inl ⟨rfl, by omega⟩
    · rw [if_neg h]
      refine .inr ⟨rfl, ?_, by omega, by omega⟩
      unfold tri
      rw [b1 (3 * (i / 4) + 2) h]
      have := b0 (3 * (i / 4))
      have := b0 (3 * (i / 4) + 1)
      omega
/-- A sign of base 64 stands for one number alone. -/
theorem dg_inj : ∀ (q k : Fin 64), (dg k.val == dg q.val) = decide (k.val = q.val) := by decide +kernel
theorem dg_ne : ∀ (k : Fin 64), (dg k.val == 61) = false ∧ (dg k.val == 10) = false ∧ dg k.val < 128 ∧ 0 ≤ dg k.val := by decide +kernel
end Go.Proofs.Ytdkhpngcomagnaa.B6
