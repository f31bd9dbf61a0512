/- Where digits end, where digits and underscores end, whether a colon stands in a text: three functions of the package, walked. For texts of at most 1000 bytes. -/
import Derived.Test.YtacmdmbdfkjhmaaRRows
import Derived.WalkKit
import Derived.WalkSpells
import Derived.WalkLawsBesides
import Derived.Lib.Strings
import Derived.Below
import Derived.Lib.Hide
namespace Go.Proofs.YtacmdmbdfkjhmaaR.Sixty
open Go.RowKit
def bt (s : ByteArray) (i : Nat) : Int := if h : i < s.size then (s[i].toNat : Int) else 0
theorem bt_of (s : ByteArray) (i : Nat) (h : i < s.size) : bt s i = (s[i].toNat : Int) := by unfold bt; rw [dif_pos h]
theorem bt_range (s : ByteArray) (i : Nat) : 0 ≤ bt s i ∧ bt s i ≤ 255 := by
  unfold bt
  split
  · rename_i h; have := s[i].toNat_lt; omega
  · omega
def dg (b : Int) : Bool := decide (48 ≤ b) && decide (b ≤ 57)
def du (b : Int) : Bool := b == 95 || dg b
/-- The first place from i on, of d places, whose byte p does not let in; else the place behind them. -/
def stop (p : Int → Bool) (s : ByteArray) (i : Nat) : Nat → Nat
  | 0 => i
  | d + 1 => if p (bt s i) then stop p s (i + 1) d else i
theorem stop_ge (p : Int → Bool) (s : ByteArray) (d : Nat) : ∀ i, i ≤ stop p s i d ∧ stop p s i d ≤ i + d := by
  induction d with
  | zero => intro i; simp [stop]
  | succ d ih =>
    intro i
    simp only [stop]
    split
    · have := ih (i + 1); omega
    · omega
theorem stop_yes {p : Int → Bool} {s : ByteArray} {i : Nat} (hi : i < s.size) (h : p (bt s i) = true) : stop p s i (s.size - i) = stop p s (i + 1) (s.size - (i + 1)) := by
  rw [show s.size - i = (s.size - (i + 1)) + 1 by omega]; simp only [stop]; rw [if_pos h]
theorem stop_no {p : Int → Bool} {s : ByteArray} {i : Nat} (h : p (bt s i) = false) : stop p s i (s.size - i) = i := by
  cases hd : s.size - i with
  | zero => rfl
  | succ d => simp only [stop]; rw [h]; simp
theorem stop_end {p : Int → Bool} {s : ByteArray} {i : Nat} (h : s.size ≤ i) : stop p s i (s.size - i) = i := by
  rw [show s.size - i = 0 by omega]; rfl
theorem bt_suffix (s : ByteArray) (i j : Nat) (h : i + j < s.size) : bt (s.extract i s.size) j = bt s (i + j) := by
  have h3 : (s.extract i s.size).size = s.size - i := by simp [ByteArray.size_extract]
  unfold bt
  rw [dif_pos (by omega), dif_pos h, ByteArray.getElem_extract]
theorem stop_suffix (p : Int → Bool) (s : ByteArray) (i d : Nat) : ∀ j, i + j + d = s.size → stop p (s.extract i s.size) j d + i = stop p s (i + j) d := by
  induction d with
  | zero => intro j h; simp only [stop]; omega
  | succ d ih =>
    intro j h
    simp only [stop]
    rw [bt_suffix s i j (by omega)]
    split
    · have := ih (j + 1) (by omega); rw [show i + (j + 1) = i + j + 1 by omega] at this; exact this
    · omega
theorem ret_int {k : IntKind} {a b : Int} (h : a = b) : Ending.returned (.int k a) = .returned (.int k b) := by rw [h]
theorem ret_bool {a b : Bool} (h : a = b) : Ending.returned (.bool a) = .returned (.bool b) := by rw [h]
set_option maxHeartbeats 400000 in
theorem digits_any (s : ByteArray) (w : World) (hs : s.size ≤ 1000) :
    Calls Try.prog 75 #[.string s] w fun e w' => e = .returned (.int .i64 (stop dg s 0 s.size : Nat)) ∧ w = w' := by
  go_enter Try.func75, Try.ntmps75
  go_wp2
  go_loop [3] (fun i => ∃ k : Nat, k ≤ s.size ∧ i = .int .i64 k ∧ stop dg s 0 s.size = stop dg s k (s.size - k)) (fun i => s.size - (intOf i).toNat)
  case atStart => exact ⟨0, Nat.zero_le _, rfl, rfl⟩
  case round =>
    obtain ⟨k, hk, rfl, hst⟩ := hrel
    by_cases hlt : k < s.size
    · have hb := bt_of s k hlt
      have hyes := stop_yes (p := dg) hlt
      have hno := stop_no (p := dg) (s := s) (i := k)
      rw [hb] at hyes hno
      have Hst := Lib.hid hst
      have Hyes := Lib.hid hyes
      have Hno := Lib.hid hno
      clear hst hyes hno hb
      by_cases h1 : 48 ≤ (s[k].toNat : Int)
      · by_cases h2 : (s[k].toNat : Int) ≤ 57
        · go_wp2
          go_round
          case rel => exact ⟨k + 1, by omega, by go_num, by rw [Hst.out]; exact Hyes.out (by simp [dg, h1, h2])⟩
          case measure => simp [intOf]; omega
        · go_wp2
          go_ret
          exact ⟨ret_int (by rw [Hst.out, Hno.out (by simp [dg, h2])]), rfl⟩
      · go_wp2
        go_ret
        exact ⟨ret_int (by rw [Hst.out, Hno.out (by simp [dg]; omega)]), rfl⟩
    · have Hst := Lib.hid hst
      clear hst
      go_wp2
      go_ret
      exact ⟨ret_int (by rw [Hst.out, stop_end (by omega)]), rfl⟩
set_option maxHeartbeats 400000 in
theorem digitsAnd_any (s : ByteArray) (i : Int) (w : World) (hs : s.size ≤ 1000) (h0 : 0 ≤ i) (hi : i ≤ s.size) :
    Calls Try.prog 76 #[.string s, .int .i64 i] w fun e w' => e = .returned (.int .i64 (stop du s i.toNat (s.size - i.toNat) : Nat)) ∧ w = w' := by
  obtain ⟨n, rfl⟩ := Int.eq_ofNat_of_zero_le h0
  rw [Int.toNat_natCast]
  go_enter Try.func76, Try.ntmps76
  go_wp2
  go_loop [1] (fun i => ∃ k : Nat, k ≤ s.size ∧ i = .int .i64 k ∧ stop du s n (s.size - n) = stop du s k (s.size - k)) (fun i => s.size - (intOf i).toNat)
  case atStart => exact ⟨n, by omega, rfl, rfl⟩
  case round =>
    obtain ⟨k, hk, rfl, hst⟩ := hrel
    by_cases hlt : k < s.size
    · have hb := bt_of s k hlt
      have hyes := stop_yes (p := du) hlt
      have hno := stop_no (p := du) (s := s) (i := k)
      rw [hb] at hyes hno
      have Hst := Lib.hid hst
      have Hyes := Lib.hid hyes
      have Hno := Lib.hid hno
      clear hst hyes hno hb
      by_cases h0 : (s[k].toNat : Int) = 95
      · have h0b : ((s[k].toNat : Int) == 95) = true := by simpa using h0
        have H0 := Lib.hid h0
        clear h0
        go_wp2
        go_round
        case rel => exact ⟨k + 1, by omega, by go_num, by rw [Hst.out]; exact Hyes.out (by simp [du, H0.out])⟩
        case measure => simp [intOf]; omega
      have h0b : ((s[k].toNat : Int) == 95) = false := by simpa using h0
      have H0 := Lib.hid h0
      clear h0
      by_cases h1 : 48 ≤ (s[k].toNat : Int)
      · by_cases h2 : (s[k].toNat : Int) ≤ 57
        · go_wp2
          go_round
          case rel => exact ⟨k + 1, by omega, by go_num, by rw [Hst.out]; exact Hyes.out (by simp [du, dg, h1, h2])⟩
          case measure => simp [intOf]; omega
        · go_wp2
          go_ret
          exact ⟨ret_int (by rw [Hst.out, Hno.out (by simp [du, dg, H0.out, h2])]), rfl⟩
      · go_wp2
        go_ret
        exact ⟨ret_int (by rw [Hst.out, Hno.out (by simp [du, dg, H0.out]; omega)]), rfl⟩
    · have Hst := Lib.hid hst
      clear hst
      go_wp2
      go_ret
      exact ⟨ret_int (by rw [Hst.out, stop_end (by omega)]), rfl⟩
end Go.Proofs.YtacmdmbdfkjhmaaR.Sixty
