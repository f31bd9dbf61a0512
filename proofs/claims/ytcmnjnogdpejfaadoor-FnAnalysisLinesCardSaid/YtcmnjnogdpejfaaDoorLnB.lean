/- The characters of a valid text, and which of them may stand in a scalar's lines: plain laws. -/
import Derived.Test.YtcmnjnogdpejfaaDoorLnA
import Derived.Test.YtcmnjnogdpejfaaDoorWd
import Derived.Laws.IdiomStrings
import Derived.Laws.Cover4
import Derived.Lib.ValidLaws
import Derived.Lib.MapLaws
import Derived.Lib.TrimUEq
import Derived.Lib.DecodeN
namespace Go.Proofs.YtcmnjnogdpejfaaDoor.Ln
open Go.RowKit
set_option linter.unusedVariables false
set_option linter.unusedSimpArgs false
def bt (s : ByteArray) (i : Nat) : Nat := (s.get! i).toNat
theorem bt_lt (s : ByteArray) (i : Nat) : bt s i < 256 := (s.get! i).toNat_lt
/-- The characters of a text. -/
def rsFrom (s : ByteArray) : Nat → Nat → List Int
  | 0, _ => []
  | n + 1, i => if i < s.size then Int.ofNat (Utf8.decode s i).1 :: rsFrom s n (i + (Utf8.decode s i).2) else []
theorem runes_list (s : ByteArray) : ∀ (n i : Nat) (acc : Array Value), Conv.runesFrom s n i acc = acc ++ ((rsFrom s n i).map (Value.int .i32)).toArray
  | 0, _, acc => by simp [Conv.runesFrom, rsFrom]
  | n + 1, i, acc => by
    unfold Conv.runesFrom rsFrom
    by_cases h : i < s.size
    · rw [if_pos h, if_pos h]
      show Conv.runesFrom s n (i + (Utf8.decode s i).2) (acc.push (.int .i32 (Int.ofNat (Utf8.decode s i).1))) = _
      rw [runes_list s n]
      simp
    · rw [if_neg h, if_neg h]
      simp
theorem rs_len (s : ByteArray) : ∀ (n i : Nat), (rsFrom s n i).length ≤ n
  | 0, _ => by simp [rsFrom]
  | n + 1, i => by
    unfold rsFrom
    split
    · have := rs_len s n (i + (Utf8.decode s i).2)
      simp
      omega
    · simp
/-- Characters that may stand in a scalar's line. -/
def ct (c : Int) : Bool :=
  if c = 9 ∨ (32 ≤ c ∧ c ≤ 126) ∨ (160 ≤ c ∧ c ≤ 55295) then decide (c ≠ 8232 ∧ c ≠ 8233)
  else if 57344 ≤ c ∧ c ≤ 65533 then decide (c ≠ 65279) else decide (65536 ≤ c ∧ c ≤ 1114111)
/-- In a scalar's lines. -/
def cl (c : Int) : Bool := ct c || c == 10
theorem ct_lf : ct 10 = false := rfl
/-- What stands from here on is these characters. -/
inductive Run (s : ByteArray) : Nat → List Int → Prop
  | done : Run s s.size []
  | step {i : Nat} {l : List Int} : i < s.size → ¬ ((Utf8.decode s i).1 = 65533 ∧ (Utf8.decode s i).2 = 1) → Run s (i + (Utf8.decode s i).2) l → Run s i (Int.ofNat (Utf8.decode s i).1 :: l)
theorem run_of (s : ByteArray) : ∀ (n i : Nat), s.size - i ≤ n → i ≤ s.size → Lib.validD (s.data.toList.drop i) = true → Run s i (rsFrom s n i)
  | 0, i, hn, hi, _ => by
    obtain rfl : i = s.size := by omega
    exact .done
  | n + 1, i, hn, hi, hv => by
    have hl : s.data.toList.length = s.size := by simp
    unfold rsFrom
    by_cases h : i < s.size
    · rw [if_pos h]
      have hne : s.data.toList.drop i ≠ [] := by
        intro e
        have := congrArg List.length e
        rw [List.length_drop, hl] at this
        simp at this
        omega
      have hle := Lib.decodeL_le (s.data.toList.drop i) hne
      rw [Lib.decodeL_drop, List.length_drop, hl] at hle
      rw [Lib.validD_step _ hne, Lib.decodeL_drop] at hv
      have hd1 : 1 ≤ (Utf8.decode s i).2 := by
        rw [Lib.decode_at]
        unfold Lib.decodeN
        repeat' split
        all_goals simp
      split at hv
      · cases hv
      · rename_i hx
        rw [List.drop_drop] at hv
        exact .step h hx (run_of s n _ (by omega) (by omega) hv)
    · rw [if_neg h]
      obtain rfl : i = s.size := by omega
      exact .done
theorem char_plain (n i c d x y z u : Nat) (h : i < n)
    (hcc : (c = 9 ∨ (32 ≤ c ∧ c ≤ 126) ∨ (160 ≤ c ∧ c ≤ 55295)) ∧ c ≠ 8232 ∧ c ≠ 8233 ∨ (57344 ≤ c ∧ c ≤ 65533) ∧ c ≠ 65279 ∨ (65536 ≤ c ∧ c ≤ 1114111) ∨ c = 10)
    (key : (d = 1 ∧ x < 128 ∧ c = x) ∨ (d = 2 ∧ i + 1 < n ∧ 192 ≤ x ∧ x < 224 ∧ 128 ≤ y ∧ y < 192 ∧ c = x % 32 * 64 + y % 64 ∧ 128 ≤ c) ∨
      (d = 3 ∧ i + 2 < n ∧ 224 ≤ x ∧ x < 240 ∧ 128 ≤ y ∧ y < 192 ∧ 128 ≤ z ∧ z < 192 ∧ c = x % 16 * 4096 + y % 64 * 64 + z % 64 ∧ 2048 ≤ c ∧ (c < 55296 ∨ 57344 ≤ c)) ∨
      (d = 4 ∧ i + 3 < n ∧ 240 ≤ x ∧ x < 248 ∧ 128 ≤ y ∧ y < 192 ∧ 128 ≤ z ∧ z < 192 ∧ 65536 ≤ c)) (b1 : y < 256) (b2 : z < 256) :
    Okc x y z ∧ (194 ≤ x → i + 1 < n) ∧ (224 ≤ x → i + 2 < n) ∧ ((d : Nat) : Int) = Wd.wd x ∧ i + d ≤ n ∧ 1 ≤ d ∧ (((x : Nat) : Int) == 10) = (Int.ofNat c == 10) := by
  have wd1 : ∀ x : Nat, x < 128 → Wd.wd x = 1 := fun x h => by unfold Wd.wd; rw [if_pos (by omega)]
  have wd2 : ∀ x : Nat, 192 ≤ x → x < 224 → Wd.wd x = 2 := fun x h h' => by unfold Wd.wd; rw [if_neg (by omega), if_neg (by omega), if_pos (by omega)]
  have wd3 : ∀ x : Nat, 224 ≤ x → x < 240 → Wd.wd x = 3 := fun x h h' => by unfold Wd.wd; rw [if_neg (by omega), if_neg (by omega), if_neg (by omega), if_pos (by omega)]
  have wd4 : ∀ x : Nat, 240 ≤ x → x < 248 → Wd.wd x = 4 := fun x h h' => by unfold Wd.wd; rw [if_neg (by omega), if_neg (by omega), if_neg (by omega), if_neg (by omega), if_pos (by omega)]
  have eqb : ∀ {a b : Int}, (a = 10 ↔ b = 10) → (a == 10) = (b == 10) := fun h => by rw [Bool.eq_iff_iff, beq_iff_eq, beq_iff_eq]; exact h
  rcases key with ⟨k1, k2, k3⟩ | ⟨k1, k2, k3, k4, k5, k6, k7, k8⟩ | ⟨k1, k2, k3, k4, k5, k6, k7, k8, k9, k10, k11⟩ | ⟨k1, k2, k3, k4, k5, k6, k7, k8, k9⟩
  · subst k1 k3
    refine ⟨⟨by omega, by omega, by omega, by omega, by omega, by omega, fun _ => by omega, fun _ => by omega, fun _ => by omega, fun _ => by omega, fun _ => by omega, fun _ => by omega⟩, fun _ => by omega, fun _ => by omega, (wd1 _ k2).symm, by omega, by omega, rfl⟩
  · subst k1
    obtain ⟨a, ha⟩ : ∃ a, x = 192 + a := ⟨x - 192, by omega⟩
    obtain ⟨b, hb⟩ : ∃ b, y = 128 + b := ⟨y - 128, by omega⟩
    have hx32 : x % 32 = a := by omega
    have hy64 : y % 64 = b := by omega
    rw [hx32, hy64] at k7
    clear hx32 hy64
    refine ⟨⟨by omega, by omega, by omega, by omega, by omega, by omega, fun _ => by omega, fun _ => by omega, fun _ => by omega, fun _ => by omega, fun _ => by omega, fun _ => by omega⟩, fun _ => by omega, fun _ => by omega, (wd2 _ k3 k4).symm, by omega, by omega, eqb ?_⟩
    rw [Int.ofNat_eq_natCast]
    omega
  · subst k1
    obtain ⟨a, ha⟩ : ∃ a, x = 224 + a := ⟨x - 224, by omega⟩
    obtain ⟨b, hb⟩ : ∃ b, y = 128 + b := ⟨y - 128, by omega⟩
    obtain ⟨e, he⟩ : ∃ e, z = 128 + e := ⟨z - 128, by omega⟩
    have hx32 : x % 16 = a := by omega
    have hy64 : y % 64 = b := by omega
    have hz64 : z % 64 = e := by omega
    rw [hx32, hy64, hz64] at k9
    clear hx32 hy64 hz64
    refine ⟨⟨by omega, by omega, by omega, by omega, by omega, by omega, fun _ => by omega, fun _ => by omega, fun _ _ => by omega, fun _ => by omega, fun _ _ => by omega, fun _ _ => by omega⟩, fun _ => by omega, fun _ => by omega, (wd3 _ k3 k4).symm, by omega, by omega, eqb ?_⟩
    rw [Int.ofNat_eq_natCast]
    omega
  · subst k1
    clear hcc
    refine ⟨⟨by omega, by omega, by omega, by omega, by omega, by omega, fun _ => by omega, fun _ => by omega, fun _ => by omega, fun _ => by omega, fun _ => by omega, fun _ => by omega⟩, fun _ => by omega, fun _ => by omega, (wd4 _ k3 k4).symm, by omega, by omega, eqb ?_⟩
    rw [Int.ofNat_eq_natCast]
    omega
theorem key_of (n i c d x y z u : Nat) (h : i < n) (hd : (c, d) = Lib.decodeN (n - i) x y z u) (hne : ¬ (c = 65533 ∧ d = 1)) :
    (d = 1 ∧ x < 128 ∧ c = x) ∨ (d = 2 ∧ i + 1 < n ∧ 192 ≤ x ∧ x < 224 ∧ 128 ≤ y ∧ y < 192 ∧ c = x % 32 * 64 + y % 64 ∧ 128 ≤ c) ∨
      (d = 3 ∧ i + 2 < n ∧ 224 ≤ x ∧ x < 240 ∧ 128 ≤ y ∧ y < 192 ∧ 128 ≤ z ∧ z < 192 ∧ c = x % 16 * 4096 + y % 64 * 64 + z % 64 ∧ 2048 ≤ c ∧ (c < 55296 ∨ 57344 ≤ c)) ∨
      (d = 4 ∧ i + 3 < n ∧ 240 ≤ x ∧ x < 248 ∧ 128 ≤ y ∧ y < 192 ∧ 128 ≤ z ∧ z < 192 ∧ 65536 ≤ c) := by
  unfold Lib.decodeN at hd
  by_cases h1 : x < 128
  · rw [if_pos h1] at hd
    obtain ⟨rfl, rfl⟩ := Prod.mk.inj hd
    exact .inl ⟨rfl, h1, rfl⟩
  rw [if_neg h1] at hd
  by_cases h2 : x / 32 = 6 ∧ (1 < n - i ∧ y / 64 = 2)
  · rw [if_pos h2] at hd
    obtain ⟨p1, p2, p3⟩ := h2
    by_cases h3 : x % 32 * 64 + y % 64 ≥ 128
    · rw [if_pos h3] at hd
      obtain ⟨rfl, rfl⟩ := Prod.mk.inj hd
      exact .inr (.inl ⟨rfl, by omega, by omega, by omega, by omega, by omega, rfl, h3⟩)
    · rw [if_neg h3] at hd
      exact absurd (Prod.mk.inj hd) hne
  rw [if_neg h2] at hd
  by_cases h3 : x / 16 = 14 ∧ (1 < n - i ∧ y / 64 = 2) ∧ (2 < n - i ∧ z / 64 = 2)
  · rw [if_pos h3] at hd
    obtain ⟨p1, ⟨p2, p3⟩, p4, p5⟩ := h3
    split at hd
    · rename_i h4
      obtain ⟨rfl, rfl⟩ := Prod.mk.inj hd
      exact .inr (.inr (.inl ⟨rfl, by omega, by omega, by omega, by omega, by omega, by omega, by omega, rfl, h4.1, h4.2.imp id And.left⟩))
    · exact absurd (Prod.mk.inj hd) hne
  rw [if_neg h3] at hd
  split at hd
  · rename_i h4
    obtain ⟨p1, ⟨p2, p3⟩, ⟨p4, p5⟩, p6, p7⟩ := h4
    split at hd
    · rename_i h5
      obtain ⟨e1, rfl⟩ := Prod.mk.inj hd
      exact .inr (.inr (.inr ⟨rfl, by omega, by omega, by omega, by omega, by omega, by omega, by omega, by rw [e1]; exact h5.1⟩))
    · exact absurd (Prod.mk.inj hd) hne
  · exact absurd (Prod.mk.inj hd) hne
set_option maxHeartbeats 4000000 in
theorem char_ok (s : ByteArray) (i : Nat) (h : i < s.size) (hne : ¬ ((Utf8.decode s i).1 = 65533 ∧ (Utf8.decode s i).2 = 1)) (hc : cl (Int.ofNat (Utf8.decode s i).1) = true) :
    Okc (bt s i) (bt s (i + 1)) (bt s (i + 2)) ∧ (194 ≤ bt s i → i + 1 < s.size) ∧ (224 ≤ bt s i → i + 2 < s.size) ∧ (((Utf8.decode s i).2 : Nat) : Int) = Wd.wd (bt s i) ∧ i + (Utf8.decode s i).2 ≤ s.size ∧ 1 ≤ (Utf8.decode s i).2 ∧ (((bt s i : Nat) : Int) == 10) = (Int.ofNat (Utf8.decode s i).1 == 10) := by
  have b0 := bt_lt s i
  have b1 := bt_lt s (i + 1)
  have b2 := bt_lt s (i + 2)
  have b3 := bt_lt s (i + 3)
  have hd := Lib.decode_at s i
  change Utf8.decode s i = Lib.decodeN (s.size - i) (bt s i) (bt s (i + 1)) (bt s (i + 2)) (bt s (i + 3)) at hd
  obtain ⟨r, hr⟩ : ∃ r, Utf8.decode s i = r := ⟨_, rfl⟩
  obtain ⟨c, d⟩ := r
  rw [hr] at hne hc hd ⊢
  simp only at hne hc ⊢
  obtain ⟨x, hx⟩ : ∃ x, bt s i = x := ⟨_, rfl⟩
  obtain ⟨y, hy⟩ : ∃ y, bt s (i + 1) = y := ⟨_, rfl⟩
  obtain ⟨z, hz⟩ : ∃ z, bt s (i + 2) = z := ⟨_, rfl⟩
  obtain ⟨u, hu⟩ : ∃ u, bt s (i + 3) = u := ⟨_, rfl⟩
  rw [hx, hy, hz, hu] at hd
  rw [hx] at b0 ⊢
  rw [hy] at b1 ⊢
  rw [hz] at b2 ⊢
  rw [hu] at b3
  clear hr hx hy hz hu
  have hcc : (c = 9 ∨ (32 ≤ c ∧ c ≤ 126) ∨ (160 ≤ c ∧ c ≤ 55295)) ∧ c ≠ 8232 ∧ c ≠ 8233 ∨ (57344 ≤ c ∧ c ≤ 65533) ∧ c ≠ 65279 ∨ (65536 ≤ c ∧ c ≤ 1114111) ∨ c = 10 := by
    unfold cl ct at hc
    simp only [Bool.or_eq_true, beq_iff_eq, Int.ofNat_eq_natCast] at hc
    rcases hc with hc | hc
    · split at hc
      · simp at hc; omega
      · split at hc
        · simp at hc; omega
        · simp at hc; omega
    · omega
  have key : (d = 1 ∧ x < 128 ∧ c = x) ∨ (d = 2 ∧ i + 1 < s.size ∧ 192 ≤ x ∧ x < 224 ∧ 128 ≤ y ∧ y < 192 ∧ c = x % 32 * 64 + y % 64 ∧ 128 ≤ c) ∨
      (d = 3 ∧ i + 2 < s.size ∧ 224 ≤ x ∧ x < 240 ∧ 128 ≤ y ∧ y < 192 ∧ 128 ≤ z ∧ z < 192 ∧ c = x % 16 * 4096 + y % 64 * 64 + z % 64 ∧ 2048 ≤ c ∧ (c < 55296 ∨ 57344 ≤ c)) ∨
      (d = 4 ∧ i + 3 < s.size ∧ 240 ≤ x ∧ x < 248 ∧ 128 ≤ y ∧ y < 192 ∧ 128 ≤ z ∧ z < 192 ∧ 65536 ≤ c) := by
    exact key_of s.size i c d x y z u h hd hne
  clear hd hc hne
  exact char_plain s.size i c d x y z u h hcc key b1 b2
end Go.Proofs.YtcmnjnogdpejfaaDoor.Ln
