/- A text of characters is valid UTF-8: plain laws. -/
import Derived.Test.YtdkhpngcomagnaaDoorSnB
import Derived.Lib.ValidLaws
namespace Go.Proofs.YtdkhpngcomagnaaDoor.Sn
open Go.Lib
set_option linter.unusedVariables false
set_option linter.unusedSimpArgs false
theorem step_two (a b : UInt8) (l : List UInt8) (n : Nat) (h1 : 128 ≤ n) (h2 : n < 2048) (ha : a.toNat = 192 + n / 64) (hb : b.toNat = 128 + n % 64) : validD ([a, b] ++ l) = validD l := by
  rw [validD_step _ (by simp), decodeL_N]
  have e : decodeN ([a, b] ++ l).length (([a, b] ++ l).getD 0 0).toNat (([a, b] ++ l).getD 1 0).toNat (([a, b] ++ l).getD 2 0).toNat (([a, b] ++ l).getD 3 0).toNat = (n, 2) := by
    show decodeN ([a, b] ++ l).length a.toNat b.toNat _ _ = _
    rw [ha, hb]
    unfold decodeN
    rw [if_neg (by omega), if_pos (by simp; omega), if_pos (by omega)]
    congr 1
    omega
  rw [e]
  simp
theorem step_three (a b d : UInt8) (l : List UInt8) (n : Nat) (h1 : 2048 ≤ n) (h2 : n < 65536) (hv : n < 55296 ∨ 57344 ≤ n) (ha : a.toNat = 224 + n / 4096) (hb : b.toNat = 128 + n / 64 % 64) (hd : d.toNat = 128 + n % 64) : validD ([a, b, d] ++ l) = validD l := by
  rw [validD_step _ (by simp), decodeL_N]
  have e : decodeN ([a, b, d] ++ l).length (([a, b, d] ++ l).getD 0 0).toNat (([a, b, d] ++ l).getD 1 0).toNat (([a, b, d] ++ l).getD 2 0).toNat (([a, b, d] ++ l).getD 3 0).toNat = (n, 3) := by
    show decodeN ([a, b, d] ++ l).length a.toNat b.toNat d.toNat _ = _
    rw [ha, hb, hd]
    have hx : (224 + n / 4096) % 16 * 4096 + (128 + n / 64 % 64) % 64 * 64 + (128 + n % 64) % 64 = n := by omega
    unfold decodeN
    rw [hx]
    rw [if_neg (by omega), if_neg (by omega), if_pos (by simp; omega), if_pos (by omega)]
  rw [e]
  simp
theorem step_four (a b d f : UInt8) (l : List UInt8) (n : Nat) (h1 : 65536 ≤ n) (h2 : n ≤ 1114111) (ha : a.toNat = 240 + n / 262144) (hb : b.toNat = 128 + n / 4096 % 64) (hd : d.toNat = 128 + n / 64 % 64) (hf : f.toNat = 128 + n % 64) : validD ([a, b, d, f] ++ l) = validD l := by
  rw [validD_step _ (by simp), decodeL_N]
  have e : decodeN ([a, b, d, f] ++ l).length (([a, b, d, f] ++ l).getD 0 0).toNat (([a, b, d, f] ++ l).getD 1 0).toNat (([a, b, d, f] ++ l).getD 2 0).toNat (([a, b, d, f] ++ l).getD 3 0).toNat = (n, 4) := by
    show decodeN ([a, b, d, f] ++ l).length a.toNat b.toNat d.toNat f.toNat = _
    rw [ha, hb, hd, hf]
    have hx : (240 + n / 262144) % 8 * 262144 + (128 + n / 4096 % 64) % 64 * 4096 + (128 + n / 64 % 64) % 64 * 64 + (128 + n % 64) % 64 = n := by omega
    unfold decodeN
    rw [hx]
    rw [if_neg (by omega), if_neg (by omega), if_neg (by omega), if_pos (by simp; omega), if_pos (by omega)]
  rw [e]
  simp
theorem enc_valid (r : Int) (l : List UInt8) : validD ((Utf8.encode r).data.toList ++ l) = validD l := by
  obtain ⟨c, hc, hv⟩ : ∃ c : Nat, (if Utf8.valid r then r.toNat else Utf8.runeError) = c ∧ (c < 55296 ∨ (57344 ≤ c ∧ c ≤ 1114111)) := by
    refine ⟨_, rfl, ?_⟩
    by_cases h : Utf8.valid r = true
    · rw [if_pos h]
      simp [Utf8.valid] at h
      omega
    · rw [if_neg h]
      unfold Utf8.runeError
      omega
  unfold Utf8.encode
  rw [hc]
  simp only
  have hu : ∀ n : Nat, n < 256 → (UInt8.ofNat n).toNat = n := fun n hn => by rw [UInt8.toNat_ofNat']; omega
  by_cases h1 : c < 128
  · rw [if_pos h1]
    exact validD_cons _ _ (by rw [hu c (by omega)]; exact h1)
  · rw [if_neg h1]
    by_cases h2 : c < 2048
    · rw [if_pos h2]
      exact step_two _ _ l c (by omega) h2 (hu _ (by omega)) (hu _ (by omega))
    · rw [if_neg h2]
      by_cases h3 : c < 65536
      · rw [if_pos h3]
        exact step_three _ _ _ l c (by omega) h3 (by omega) (hu _ (by omega)) (hu _ (by omega)) (hu _ (by omega))
      · rw [if_neg h3]
        exact step_four _ _ _ _ l c (by omega) (by omega) (hu _ (by omega)) (hu _ (by omega)) (hu _ (by omega)) (hu _ (by omega))
theorem runes_data : ∀ (ns : List Int) (s : ByteArray), (ns.foldl (fun r n => r ++ Utf8.encode n) s).data.toList = s.data.toList ++ ns.flatMap fun n => (Utf8.encode n).data.toList
  | [], s => by simp
  | n :: ns, s => by
    rw [List.foldl_cons, runes_data ns]
    simp
theorem runes_valid (ns : List Int) : validD (runesBytes ns).data.toList = true := by
  unfold runesBytes
  rw [runes_data]
  have h : ∀ ns : List Int, validD (ns.flatMap fun n => (Utf8.encode n).data.toList) = true := by
    intro ns
    induction ns with
    | nil => rfl
    | cons n ns ih => rw [List.flatMap_cons, enc_valid]; exact ih
  exact h ns
theorem sized_valid (s : ByteArray) : validD (sized s).data.toList = true := runes_valid _
theorem sized_size (s : ByteArray) : (sized s).size ≤ 1200 := by
  unfold sized runesBytes
  have := foldl_size_le ((rsFrom s s.size 0).take 300) ByteArray.empty
  have h2 : ((rsFrom s s.size 0).take 300).length ≤ 300 := by simp; omega
  have h3 : ByteArray.empty.size = 0 := rfl
  omega
end Go.Proofs.YtdkhpngcomagnaaDoor.Sn
