/- The reference's form of a number of base 60, and the law. For texts of at most 1000 bytes; longer texts are let by. -/
import Derived.Test.YtacmdmbdfkjhmaaRSixtyC
namespace Go.Proofs.YtacmdmbdfkjhmaaR.Sixty
open Go.RowKit
def sgn (s : ByteArray) : Nat := if 0 < s.size ∧ (bt s 0 = 43 ∨ bt s 0 = 45) then 1 else 0
theorem b60_sgn (s : ByteArray) : b60 s = road s (sgn s) := by
  unfold b60 sgn
  by_cases h : s.size = 0
  · rw [if_pos h, if_neg (by omega)]
    unfold road
    rw [if_neg (by omega)]
  · rw [if_neg h]
    split
    · rename_i h1; rw [if_pos ⟨by omega, h1⟩]
    · rename_i h1; rw [if_neg (fun h => h1 h.2)]
set_option maxHeartbeats 400000 in
theorem signed_any (s : ByteArray) (w : World) : Calls Try.prog 30 #[.string s] w fun e w' => e = .returned (.int .i64 (sgn s : Nat)) ∧ w = w' := by
  by_cases h0 : s.size = 0
  · have hb : sgn s = 0 := by unfold sgn; rw [if_neg (by omega)]
    have hl : s.toList = [] := size_zero.2 h0
    rw [hb]
    clear hb
    go_enter Try.func30, Try.ntmps30
    go_wp2
    go_ret
    exact ⟨rfl, rfl⟩
  have hne : s.toList.isEmpty = false := by
    cases h : s.toList with
    | nil => exact (h0 (size_zero.1 h)).elim
    | cons a l => rfl
  have hpos : 0 < s.size := by omega
  have hbt := bt_of s 0 hpos
  clear h0
  by_cases h1 : bt s 0 = 45
  · have hb : sgn s = 1 := by unfold sgn; rw [if_pos ⟨hpos, .inr h1⟩]
    have h1b : ((s[0].toNat : Int) == 45) = true := by rw [← hbt, h1]; rfl
    rw [hb]
    clear hb h1 hbt
    go_enter Try.func30, Try.ntmps30
    go_wp2
    go_ret
    exact ⟨rfl, rfl⟩
  have h1b : ((s[0].toNat : Int) == 45) = false := by rw [← hbt]; simpa using h1
  by_cases h2 : bt s 0 = 43
  · have hb : sgn s = 1 := by unfold sgn; rw [if_pos ⟨hpos, .inl h2⟩]
    have h2b : ((s[0].toNat : Int) == 43) = true := by rw [← hbt, h2]; rfl
    rw [hb]
    clear hb h1 h2 hbt
    go_enter Try.func30, Try.ntmps30
    go_wp2
    go_ret
    exact ⟨rfl, rfl⟩
  · have hb : sgn s = 0 := by unfold sgn; rw [if_neg (fun h => by rcases h.2 with h | h; exact h2 h; exact h1 h)]
    have h2b : ((s[0].toNat : Int) == 43) = false := by rw [← hbt]; simpa using h2
    rw [hb]
    clear hb h1 h2 hbt
    go_enter Try.func30, Try.ntmps30
    go_wp2
    go_ret
    exact ⟨rfl, rfl⟩
/-- What the reference says with n groups behind it. -/
def after (s : ByteArray) (n k : Nat) : Bool := if n = 0 ∧ ¬ (k < s.size ∧ bt s k = 58) then false else tl s k
theorem dg_bounds {b : Int} (h : dg b = true) : 48 ≤ b ∧ b ≤ 57 := by simpa [dg] using h
theorem dg_not {b : Int} (h : dg b = false) : b < 48 ∨ 57 < b := by
  simp [dg] at h
  omega
theorem tl_digit {s : ByteArray} {k : Nat} (hk : k < s.size) (h : dg (bt s k) = true) : tl s k = false := by
  have := dg_bounds h
  rw [tl_else (by omega) (by omega) (by omega)]
  simp; omega
theorem after_58 {s : ByteArray} {n k : Nat} (hk : k < s.size) (h : bt s k = 58) : after s n k = tl s k := by
  unfold after
  rw [if_neg (fun x => x.2 ⟨hk, h⟩)]
/-- A colon, and one digit. -/
theorem after_one {s : ByteArray} {n k : Nat} (h1 : k + 1 < s.size) (h : bt s k = 58) (hd : dg (bt s (k + 1)) = true) (he : ¬ (k + 2 < s.size ∧ dg (bt s (k + 2)) = true)) : after s n k = after s (n + 1) (k + 2) := by
  have hst : stop dg s (k + 1) (s.size - (k + 1)) = k + 1 + 1 := by
    rw [stop_yes h1 hd]
    by_cases h2 : k + 2 < s.size
    · exact stop_no (by cases x : dg (bt s (k + 1 + 1)) with | false => rfl | true => exact (he ⟨h2, x⟩).elim)
    · exact stop_end (by omega)
  rw [after_58 (by omega) h, tl_58 (by omega) h hst, if_neg (by omega), if_neg (by omega)]
  unfold after
  rw [if_neg (by omega)]
/-- A colon, and two digits, the first one above 5. -/
theorem after_high {s : ByteArray} {n k : Nat} (h2 : k + 2 < s.size) (h : bt s k = 58) (hd : dg (bt s (k + 1)) = true) (he : dg (bt s (k + 2)) = true) (h5 : 53 < bt s (k + 1)) : after s n k = false := by
  have hst := stop_ge dg s (s.size - (k + 3)) (k + 3)
  have hs : stop dg s (k + 1) (s.size - (k + 1)) = k + 1 + (stop dg s (k + 3) (s.size - (k + 3)) - (k + 1)) := by
    rw [stop_yes (by omega) hd, stop_yes (by omega) he, show k + 1 + 1 + 1 = k + 3 by omega]
    omega
  rw [after_58 (by omega) h, tl_58 (by omega) h hs]
  split
  · rfl
  · rw [if_pos ⟨by omega, h5⟩]
/-- A colon, and two digits, the first one at most 5. -/
theorem after_two {s : ByteArray} {n k : Nat} (h2 : k + 2 < s.size) (h : bt s k = 58) (hd : dg (bt s (k + 1)) = true) (he : dg (bt s (k + 2)) = true) (h5 : ¬ 53 < bt s (k + 1)) : after s n k = after s (n + 1) (k + 3) := by
  have hst := stop_ge dg s (s.size - (k + 3)) (k + 3)
  have hs : stop dg s (k + 1) (s.size - (k + 1)) = k + 1 + (stop dg s (k + 3) (s.size - (k + 3)) - (k + 1)) := by
    rw [stop_yes (by omega) hd, stop_yes (by omega) he, show k + 1 + 1 + 1 = k + 3 by omega]
    omega
  rw [after_58 (by omega) h, tl_58 (by omega) h hs]
  have ha : after s (n + 1) (k + 3) = tl s (k + 3) := by unfold after; rw [if_neg (by omega)]
  rw [ha]
  by_cases h3 : k + 3 < s.size ∧ dg (bt s (k + 3)) = true
  · rw [tl_digit h3.1 h3.2, if_pos]
    right
    have := stop_ge dg s (s.size - (k + 4)) (k + 4)
    rw [stop_yes h3.1 h3.2, show k + 3 + 1 = k + 4 by omega]
    omega
  · have h3' : stop dg s (k + 3) (s.size - (k + 3)) = k + 3 := by
      by_cases x : k + 3 < s.size
      · exact stop_no (by cases y : dg (bt s (k + 3)) with | false => rfl | true => exact (h3 ⟨x, y⟩).elim)
      · exact stop_end (by omega)
    rw [h3', if_neg (by omega), if_neg (fun x => h5 x.2), show k + 1 + (k + 3 - (k + 1)) = k + 3 by omega]
/-- A colon without a digit behind it. -/
theorem tl_bare {s : ByteArray} {k : Nat} (hk : k < s.size) (h : bt s k = 58) (hd : ¬ (k + 1 < s.size ∧ dg (bt s (k + 1)) = true)) : tl s k = false := by
  have hs : stop dg s (k + 1) (s.size - (k + 1)) = k + 1 + 0 := by
    by_cases x : k + 1 < s.size
    · exact stop_no (by cases y : dg (bt s (k + 1)) with | false => rfl | true => exact (hd ⟨x, y⟩).elim)
    · exact stop_end (by omega)
  rw [tl_58 hk h hs, if_pos (.inl rfl)]
/-- What is left to say where the rounds end. -/
theorem after_end {s : ByteArray} {n k : Nat} (hk : k ≤ s.size) (hd : ¬ (k + 1 < s.size ∧ bt s k = 58 ∧ dg (bt s (k + 1)) = true)) :
    after s n k = if n = 0 then false else if k < s.size ∧ bt s k = 46 then stop du s (k + 1) (s.size - (k + 1)) == s.size else k == s.size := by
  by_cases h : k < s.size ∧ bt s k = 58
  · rw [after_58 h.1 h.2, tl_bare h.1 h.2 (fun x => hd ⟨x.1, h.2, x.2⟩)]
    split
    · rfl
    rw [if_neg (by omega)]
    simp; omega
  · unfold after
    split
    · rename_i x; rw [if_pos x.1]
    · rename_i x
      rw [if_neg (fun y => x ⟨y, h⟩)]
      by_cases p : k < s.size ∧ bt s k = 46
      · rw [if_pos p, tl_46 p.1 p.2]
      · rw [if_neg p, tl_else hk h p]
theorem road_after (s : ByteArray) (i : Nat) (h : i < s.size ∧ dg (bt s i) = true) : road s i = after s 0 (stop du s i (s.size - i)) := by
  unfold road after
  rw [if_pos h]
  split
  · rename_i x; rw [if_neg (fun y => y.2 x)]
  · rename_i x; rw [if_pos ⟨rfl, x⟩]
end Go.Proofs.YtacmdmbdfkjhmaaR.Sixty
