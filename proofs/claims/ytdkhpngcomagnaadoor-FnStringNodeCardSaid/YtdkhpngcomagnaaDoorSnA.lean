/- A line feed is looked for (zzIndex, zzContains): the walks. -/
import Derived.Test.YtdkhpngcomagnaaDoorProg
import Derived.WalkKit
import Derived.WalkSpells
import Derived.WalkLawsBesides
import Derived.Lib.Hide
import Derived.Lib.Strings
import Derived.Below
import Derived.BigGuard
import Derived.BigCall
import Derived.Deep.LoopGhost
namespace Go.Proofs.YtdkhpngcomagnaaDoor.Sn
open Go.RowKit
set_option linter.unusedVariables false
set_option linter.unusedSimpArgs false
def bt (s : ByteArray) (i : Nat) : Nat := if h : i < s.size then s[i].toNat else 0
theorem bt_of (s : ByteArray) (i : Nat) (h : i < s.size) : bt s i = s[i].toNat := by unfold bt; rw [dif_pos h]
/-- Whether there is a line feed among the first n bytes. -/
def fed (s : ByteArray) (n : Nat) : Bool := (List.range n).any fun i => bt s i == 10
theorem fed_succ (s : ByteArray) (n : Nat) : fed s (n + 1) = (fed s n || bt s n == 10) := by
  unfold fed
  rw [List.range_succ, List.any_append]
  simp
theorem one_eq (s : ByteArray) (i : Nat) (h : i < s.size) : decide (s.extract i (i + 1) = (⟨#[10]⟩ : ByteArray)) = (bt s i == 10) := by
  have e : s.extract i (i + 1) = ⟨#[s[i]]⟩ := by
    apply ByteArray.ext
    rw [ByteArray.data_extract]
    apply Array.ext
    · simp; have : s.data.size = s.size := rfl; omega
    · intro j h1 h2
      simp at h1 h2
      have hj : j = 0 := by have : s.data.size = s.size := rfl; omega
      subst hj
      simp
      rfl
  rw [e, bt_of s i h]
  by_cases hx : s[i].toNat = 10
  · have hb : s[i] = 10 := by
      apply UInt8.toNat_inj.1
      rw [hx]
      rfl
    rw [hb]
    rfl
  · have h1 : (s[i].toNat == 10) = false := by rw [beq_eq_false_iff_ne]; exact hx
    rw [h1, decide_eq_false_iff_not]
    intro hh
    apply hx
    have := congrArg (fun b : ByteArray => b.data[0]?) hh
    simp at this
    rw [this]
    rfl
theorem one_eql (s : ByteArray) (i : Nat) (h : i < s.size) : ((s.extract i (i + 1)).toList == [10]) = (bt s i == 10) := by
  rw [← one_eq s i h, Lib.toList_data]
  by_cases hh : s.extract i (i + 1) = (⟨#[10]⟩ : ByteArray)
  · rw [hh]; rfl
  · rw [decide_eq_false hh, beq_eq_false_iff_ne]
    intro e
    apply hh
    apply ByteArray.ext
    exact Array.toList_inj.1 e
theorem fed_mono (s : ByteArray) {a b : Nat} (h : a ≤ b) (hf : fed s a = true) : fed s b = true := by
  unfold fed at hf ⊢
  rw [List.any_eq_true] at hf ⊢
  obtain ⟨x, hx, hx2⟩ := hf
  exact ⟨x, by simp at hx ⊢; omega, hx2⟩
set_option maxHeartbeats 4000000 in
set_option maxRecDepth 100000 in
theorem index_any (s : ByteArray) (w : World) (hs : s.size ≤ 1000000000) :
    Calls Tryd.prog 13 #[.string s, .string ⟨#[10]⟩] w fun e w' => (∃ r : Int, e = .returned (.int .i64 r) ∧ decide (0 ≤ r) = fed s s.size) ∧ w' = w := by
  go_enter Tryd.func13, Tryd.ntmps13
  go_wp2_with fail
  go_loopg [5] s.size (fun g s5 wr => wr = w ∧ ∃ i : Nat, i ≤ s.size ∧ g = s.size - i ∧ s5 = .int .i64 (i : Nat) ∧ fed s i = false)
  case atStart => exact ⟨rfl, 0, Nat.zero_le _, rfl, rfl, rfl⟩
  obtain ⟨rfl, i, hi, hgk, rfl, hf⟩ := hrel
  have HGK := Lib.hid hgk
  clear hgk
  by_cases hlt : i < s.size
  · have h1 : decide ((i : Int) + 1 ≤ (s.size : Int)) = true := by simp; omega
    have h2 : (i : Int) + 1 ≤ (s.size : Int) := by omega
    have h3 : i + 1 ≤ s.size := by omega
    have h4 : (0 : Int) ≤ (i : Int) := by omega
    have he := one_eql s i hlt
    have hsc := fed_succ s i
    rw [hf, Bool.false_or] at hsc
    cases hb : (bt s i == 10) with
    | true =>
      rw [hb] at he hsc
      have HSC := Lib.hid hsc
      clear hsc hf hb
      go_wp2_with fail
      go_ret
      refine ⟨⟨(i : Nat), rfl, ?_⟩, rfl⟩
      rw [fed_mono s (a := i + 1) (by omega) HSC.out]
      simp
    | false =>
      rw [hb] at he hsc
      have HSC := Lib.hid hsc
      clear hsc hf hb
      go_wp2_with fail
      go_roundg (s.size - (i + 1))
      case measure => have := HGK.out; omega
      case rel => exact ⟨rfl, i + 1, by omega, rfl, rfl, HSC.out⟩
  · obtain rfl : i = s.size := by omega
    have h1 : decide (((s.size : Nat) : Int) + 1 ≤ (s.size : Int)) = false := by simp; omega
    have HF := Lib.hid hf
    clear hf
    go_wp2_with fail
    go_ret
    exact ⟨⟨-1, rfl, HF.out.symm⟩, rfl⟩
theorem contains_any (s : ByteArray) (w : World) (hs : s.size ≤ 1000000000) :
    Calls Tryd.prog 10 #[.string s, .string ⟨#[10]⟩] w fun e w' => e = .returned (.bool (fed s s.size)) ∧ w' = w := by
  have hc := index_any s w hs
  obtain ⟨b, hb⟩ : ∃ b, fed s s.size = b := ⟨_, rfl⟩
  rw [hb] at hc ⊢
  clear hb
  have HC := Lib.hid hc
  clear hc
  go_enter Tryd.func10, Tryd.ntmps10
  go_wp2_with fail
  refine HC.out.mono ?_
  rintro e w1 ⟨⟨r, rfl, hr⟩, rfl⟩
  go_wp2_with fail
  go_ret
  exact ⟨rfl, rfl⟩
end Go.Proofs.YtdkhpngcomagnaaDoor.Sn
