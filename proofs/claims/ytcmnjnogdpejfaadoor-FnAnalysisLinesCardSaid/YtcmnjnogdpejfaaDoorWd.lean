/- How many bytes a character has by its first byte (width), walked. -/
import Derived.Test.YtcmnjnogdpejfaaDoorRows
import Derived.WalkKit
import Derived.WalkSpells
import Derived.WalkLawsBesides
namespace Go.Proofs.YtcmnjnogdpejfaaDoor.Wd
open Go.RowKit
set_option linter.unusedVariables false
/-- The bytes of a character that begins with this byte; 0: none does. -/
def wd (x : Int) : Int := if x < 128 then 1 else if x < 192 then 0 else if x < 224 then 2 else if x < 240 then 3 else if x < 248 then 4 else 0
theorem bits_all : ∀ k : Fin 256, (Go.bits .and .u8 (k.val : Int) 128 == 0) = decide (k.val < 128) ∧ (Go.bits .and .u8 (k.val : Int) 224 == 192) = decide (192 ≤ k.val ∧ k.val < 224) ∧
    (Go.bits .and .u8 (k.val : Int) 240 == 224) = decide (224 ≤ k.val ∧ k.val < 240) ∧ (Go.bits .and .u8 (k.val : Int) 248 == 240) = decide (240 ≤ k.val ∧ k.val < 248) := by decide +kernel
theorem bits_at (x : Int) (h0 : 0 ≤ x) (h1 : x ≤ 255) : (Go.bits .and .u8 x 128 == 0) = decide (x < 128) ∧ (Go.bits .and .u8 x 224 == 192) = decide (192 ≤ x ∧ x < 224) ∧
    (Go.bits .and .u8 x 240 == 224) = decide (224 ≤ x ∧ x < 240) ∧ (Go.bits .and .u8 x 248 == 240) = decide (240 ≤ x ∧ x < 248) := by
  obtain ⟨n, rfl⟩ := Int.eq_ofNat_of_zero_le h0
  obtain ⟨a, b, c, d⟩ := bits_all ⟨n, by omega⟩
  refine ⟨a.trans ?_, b.trans ?_, c.trans ?_, d.trans ?_⟩
  all_goals (rw [decide_eq_decide]; simp only; omega)
set_option maxHeartbeats 400000 in
theorem wd_any (x : Int) (h0 : 0 ≤ x) (h1 : x ≤ 255) (w : World) : Calls Tryd.prog 33 #[.int .u8 x] w fun e w' => e = .returned (.int .i64 (wd x)) ∧ w = w' := by
  obtain ⟨a, b, c, d⟩ := bits_at x h0 h1
  by_cases c1 : x < 128
  · have r : wd x = 1 := by unfold wd; rw [if_pos c1]
    have a' : (Go.bits .and .u8 x 128 == 0) = true := a.trans (decide_eq_true c1)
    rw [r]; clear a b c d r
    go_enter Tryd.func33, Tryd.ntmps33
    go_wp2_with fail
    go_ret
    exact ⟨rfl, rfl⟩
  have a' : (Go.bits .and .u8 x 128 == 0) = false := a.trans (decide_eq_false c1)
  by_cases c2 : 192 ≤ x ∧ x < 224
  · have r : wd x = 2 := by unfold wd; rw [if_neg c1, if_neg (by omega), if_pos c2.2]
    have b' : (Go.bits .and .u8 x 224 == 192) = true := b.trans (decide_eq_true c2)
    rw [r]; clear a b c d r c2 c1
    go_enter Tryd.func33, Tryd.ntmps33
    go_wp2_with fail
    go_ret
    exact ⟨rfl, rfl⟩
  have b' : (Go.bits .and .u8 x 224 == 192) = false := b.trans (decide_eq_false c2)
  by_cases c3 : 224 ≤ x ∧ x < 240
  · have r : wd x = 3 := by unfold wd; rw [if_neg c1, if_neg (by omega), if_neg (by omega), if_pos c3.2]
    have c' : (Go.bits .and .u8 x 240 == 224) = true := c.trans (decide_eq_true c3)
    rw [r]; clear a b c d r c3 c2 c1
    go_enter Tryd.func33, Tryd.ntmps33
    go_wp2_with fail
    go_ret
    exact ⟨rfl, rfl⟩
  have c' : (Go.bits .and .u8 x 240 == 224) = false := c.trans (decide_eq_false c3)
  by_cases c4 : 240 ≤ x ∧ x < 248
  · have r : wd x = 4 := by unfold wd; rw [if_neg c1, if_neg (by omega), if_neg (by omega), if_neg (by omega), if_pos c4.2]
    have d' : (Go.bits .and .u8 x 248 == 240) = true := d.trans (decide_eq_true c4)
    rw [r]; clear a b c d r c4 c3 c2 c1
    go_enter Tryd.func33, Tryd.ntmps33
    go_wp2_with fail
    go_ret
    exact ⟨rfl, rfl⟩
  have d' : (Go.bits .and .u8 x 248 == 240) = false := d.trans (decide_eq_false c4)
  have r : wd x = 0 := by
    unfold wd
    rw [if_neg c1]
    split
    · rfl
    · rw [if_neg (by omega), if_neg (by omega), if_neg (by omega)]
  rw [r]; clear a b c d r c4 c3 c2 c1
  go_enter Tryd.func33, Tryd.ntmps33
  go_wp2_with fail
  go_ret
  exact ⟨rfl, rfl⟩
end Go.Proofs.YtcmnjnogdpejfaaDoor.Wd
