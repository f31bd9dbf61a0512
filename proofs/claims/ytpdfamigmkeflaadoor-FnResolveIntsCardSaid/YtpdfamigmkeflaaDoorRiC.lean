/- Integers read from digits behind 0x and 0o, and 0 (strconv.ParseUint at base 0): the walks. Printed by genRiC.py. -/
import Derived.Test.YtpdfamigmkeflaaDoorRiB
namespace Go.Proofs.YtpdfamigmkeflaaDoor.Ri
open Go.RowKit
set_option linter.unusedVariables false
set_option linter.unusedSimpArgs false
theorem or_low : ∀ k : Fin 256, 97 ≤ k.val → k.val ≤ 122 → Go.bits .or .u8 (k.val : Int) 32 = k.val := by decide +kernel
theorem or_at (y : Int) (h0 : 97 ≤ y) (h1 : y ≤ 122) : Go.bits .or .u8 y 32 = y := by
  obtain ⟨n, rfl⟩ := Int.eq_ofNat_of_zero_le (show 0 ≤ y by omega)
  exact or_low ⟨n, by omega⟩ (by simp only; omega) (by simp only; omega)
set_option maxHeartbeats 4000000 in
set_option maxRecDepth 100000 in
theorem pu_16 (t : List UInt8) (w : World) (ht : Dg 16 t) (h1 : 1 ≤ t.length) (h2 : t.length ≤ 100) (hv : val 16 t ≤ 18446744073709551615) :
    Calls Tryd.prog 43 #[.string (S (48 :: 120 :: t)), .int .i64 0, .int .i64 64] w fun e w' => e = .returned (.tuple #[.int .u64 (val 16 t), .nilIface]) ∧ Below w.heap.size w w' := by
  have hszt := S_size t
  have hsz : (S (48 :: 120 :: t)).size = t.length + 2 := S_size _
  have hg0 : (((S (48 :: 120 :: t))[0]'(by rw [hsz]; omega)).toNat : Int) = 48 := by rw [S_get (48 :: 120 :: t) 0 (by simp)]; rfl
  have hg1 : (((S (48 :: 120 :: t))[1]'(by rw [hsz]; omega)).toNat : Int) = 120 := by rw [S_get (48 :: 120 :: t) 1 (by simp)]; rfl
  have hx1 : (S (48 :: 120 :: t)).extract 2 (S (48 :: 120 :: t)).size = S t := S_extract [48, 120] t
  have hx2 : (S (48 :: 120 :: t)).extract 2 (t.length + 2) = S t := by rw [← hsz]; exact hx1
  have hx3 : (S (48 :: 120 :: t)).extract 2 (t.length + 2) = S t := hx2
  have lo : Go.bits .or .u8 120 32 = 120 := by decide
  obtain ⟨c, w1, hconv, hb, hs1, hc⟩ := conv_any t w
  have hemp : (S (48 :: 120 :: t)).toList.isEmpty = false := S_ne _ (by simp)
  obtain ⟨s, HS⟩ : ∃ s, Hid (S (48 :: 120 :: t) = s) := ⟨_, rfl⟩
  obtain ⟨n, HN⟩ : ∃ n, Hid (t.length = n) := ⟨_, rfl⟩
  obtain ⟨q, HQ⟩ : ∃ q, Hid (w.heap.size = q) := ⟨_, rfl⟩
  have HT := Lib.hid ht
  have HV := Lib.hid hv
  have HC := Lib.hid hc
  have HB := Lib.hid hb
  rw [HN.out] at hszt hsz hx2
  rw [HN.out, HQ.out] at hconv
  have k3 : (3 : Int) ≤ (n : Int) + 2 := by have := HN.out; omega
  have k3' : decide ((3 : Int) ≤ (n : Int) + 2) = true := decide_eq_true k3
  clear ht hv hc hb
  go_enter Tryd.func43, Tryd.ntmps43
  go_wp2_with (go_at_call 52; refine (low_any _ _).mono ?_; rintro e w' ⟨rfl, rfl⟩)
  go_loopg [12, 13, 101] n (fun g s12 s13 s101 wr => wr = w1 ∧ s12 = .bool false ∧ ∃ i : Nat, i ≤ n ∧ g = n - i ∧ s13 = .int .u64 (val 16 (t.take i) : Nat) ∧ s101 = .int .i64 (i : Nat))
  case atStart => exact ⟨rfl, rfl, 0, Nat.zero_le _, rfl, rfl, rfl⟩
  obtain ⟨rfl, rfl, i, hi, hgk, rfl, rfl⟩ := hrel
  have HGK := Lib.hid hgk
  clear hgk
  by_cases hlt : i < n
  · have hlt2 : i < t.length := by rw [HN.out]; exact hlt
    obtain ⟨d, hd, hcd⟩ := HT.out t[i] (List.getElem_mem hlt2)
    have hcell := HC.out i hlt2
    rw [hcd, dgu_nat d (by omega), HQ.out] at hcell
    have hval := val_take 16 t i hlt2
    rw [hcd, dv_dgu d (by omega)] at hval
    have hle := val_le 16 (by omega) t (t.length - (i + 1)) (i + 1) (by omega)
    have hle2 := HV.out
    obtain ⟨v, HVV⟩ : ∃ v, Hid (val 16 (t.take i) = v) := ⟨_, rfl⟩
    rw [HVV.out] at hval ⊢
    have HVL := Lib.hid hval
    have b1 : v * 16 + d ≤ 18446744073709551615 := by omega
    clear hle hle2 hval hcd
    have j0 : (0 : Int) ≤ (i : Int) := by omega
    have j1 : (i : Int) < (n : Int) := by omega
    have d4 : decide ((16 : Int) ≤ (d : Int)) = false := decide_eq_false (by omega)
    have d5 : decide ((1152921504606846976 : Int) ≤ (v : Int)) = false := decide_eq_false (by omega)
    have d6 : decide (IntKind.u64.wrap (IntKind.u64.wrap 18446744073709551616 - 1) < (v : Int) * 16 + (d : Int)) = false := by rw [show IntKind.u64.wrap (IntKind.u64.wrap 18446744073709551616 - 1) = 18446744073709551615 by decide]; exact decide_eq_false (by omega)
    have d7 : decide ((v : Int) * 16 + (d : Int) < (v : Int) * 16) = false := decide_eq_false (by omega)
    by_cases hw : d < 10
    · rw [if_pos (by omega)] at hcell
      obtain ⟨y, HY⟩ : ∃ y : Int, Hid (((48 + d : Nat) : Int) = y) := ⟨_, rfl⟩
      have hy := HY.out
      rw [hy] at hcell
      have y1 : 48 ≤ y := by omega
      have y2 : y ≤ 57 := by omega
      have y3 : y - 48 = (d : Int) := by omega
      have d1 : decide (48 ≤ y) = true := decide_eq_true y1
      have d2 : decide (y ≤ 57) = true := decide_eq_true y2
      have d3 : (y == 95) = false := by rw [beq_eq_false_iff_ne]; omega
      clear hy
      go_wp2_with (go_at_call 52; refine (low_any _ _).mono ?_; rintro e w' ⟨rfl, rfl⟩)
      go_roundg (n - (i + 1))
      case measure => have := HGK.out; omega
      case rel => exact ⟨rfl, rfl, i + 1, by omega, rfl, by rw [HVL.out]; push_cast; rfl, rfl⟩
    · rw [if_neg (by omega)] at hcell
      obtain ⟨y, HY⟩ : ∃ y : Int, Hid (((87 + d : Nat) : Int) = y) := ⟨_, rfl⟩
      have hy := HY.out
      rw [hy] at hcell
      have y1 : 97 ≤ y := by omega
      have y2 : y ≤ 122 := by omega
      have y3 : y - 97 + 10 = (d : Int) := by omega
      have y4 : y ≤ 112 := by omega
      have d1 : decide (48 ≤ y) = true := decide_eq_true (by omega)
      have d2 : decide (y ≤ 57) = false := decide_eq_false (by omega)
      have d3 : (y == 95) = false := by rw [beq_eq_false_iff_ne]; omega
      have d8 : decide (97 ≤ y) = true := decide_eq_true y1
      have d9 : decide (y ≤ 122) = true := decide_eq_true y2
      have hor := or_at y y1 y2
      clear hy
      go_wp2_with (go_at_call 52; refine (low_any _ _).mono ?_; rintro e w' ⟨rfl, rfl⟩)
      go_roundg (n - (i + 1))
      case measure => have := HGK.out; omega
      case rel => exact ⟨rfl, rfl, i + 1, by omega, rfl, by rw [HVL.out]; push_cast; rfl, rfl⟩
  · obtain rfl : i = n := by omega
    have j1 : ¬ ((i : Int) < (i : Int)) := by omega
    have he : val 16 (t.take i) = val 16 t := by rw [List.take_of_length_le (by have := HN.out; omega)]
    rw [he]
    go_wp2_with fail
    go_ret2
    exact ⟨rfl, HB.out⟩
set_option maxHeartbeats 4000000 in
set_option maxRecDepth 100000 in
theorem pu_8 (t : List UInt8) (w : World) (ht : Dg 8 t) (h1 : 1 ≤ t.length) (h2 : t.length ≤ 100) (hv : val 8 t ≤ 18446744073709551615) :
    Calls Tryd.prog 43 #[.string (S (48 :: 111 :: t)), .int .i64 0, .int .i64 64] w fun e w' => e = .returned (.tuple #[.int .u64 (val 8 t), .nilIface]) ∧ Below w.heap.size w w' := by
  have hszt := S_size t
  have hsz : (S (48 :: 111 :: t)).size = t.length + 2 := S_size _
  have hg0 : (((S (48 :: 111 :: t))[0]'(by rw [hsz]; omega)).toNat : Int) = 48 := by rw [S_get (48 :: 111 :: t) 0 (by simp)]; rfl
  have hg1 : (((S (48 :: 111 :: t))[1]'(by rw [hsz]; omega)).toNat : Int) = 111 := by rw [S_get (48 :: 111 :: t) 1 (by simp)]; rfl
  have hx1 : (S (48 :: 111 :: t)).extract 2 (S (48 :: 111 :: t)).size = S t := S_extract [48, 111] t
  have hx2 : (S (48 :: 111 :: t)).extract 2 (t.length + 2) = S t := by rw [← hsz]; exact hx1
  have hx3 : (S (48 :: 111 :: t)).extract 2 (t.length + 2) = S t := hx2
  have lo : Go.bits .or .u8 111 32 = 111 := by decide
  obtain ⟨c, w1, hconv, hb, hs1, hc⟩ := conv_any t w
  have hemp : (S (48 :: 111 :: t)).toList.isEmpty = false := S_ne _ (by simp)
  obtain ⟨s, HS⟩ : ∃ s, Hid (S (48 :: 111 :: t) = s) := ⟨_, rfl⟩
  obtain ⟨n, HN⟩ : ∃ n, Hid (t.length = n) := ⟨_, rfl⟩
  obtain ⟨q, HQ⟩ : ∃ q, Hid (w.heap.size = q) := ⟨_, rfl⟩
  have HT := Lib.hid ht
  have HV := Lib.hid hv
  have HC := Lib.hid hc
  have HB := Lib.hid hb
  rw [HN.out] at hszt hsz hx2
  rw [HN.out, HQ.out] at hconv
  have k3 : (3 : Int) ≤ (n : Int) + 2 := by have := HN.out; omega
  have k3' : decide ((3 : Int) ≤ (n : Int) + 2) = true := decide_eq_true k3
  clear ht hv hc hb
  go_enter Tryd.func43, Tryd.ntmps43
  go_wp2_with (go_at_call 52; refine (low_any _ _).mono ?_; rintro e w' ⟨rfl, rfl⟩)
  go_loopg [12, 13, 101] n (fun g s12 s13 s101 wr => wr = w1 ∧ s12 = .bool false ∧ ∃ i : Nat, i ≤ n ∧ g = n - i ∧ s13 = .int .u64 (val 8 (t.take i) : Nat) ∧ s101 = .int .i64 (i : Nat))
  case atStart => exact ⟨rfl, rfl, 0, Nat.zero_le _, rfl, rfl, rfl⟩
  obtain ⟨rfl, rfl, i, hi, hgk, rfl, rfl⟩ := hrel
  have HGK := Lib.hid hgk
  clear hgk
  by_cases hlt : i < n
  · have hlt2 : i < t.length := by rw [HN.out]; exact hlt
    obtain ⟨d, hd, hcd⟩ := HT.out t[i] (List.getElem_mem hlt2)
    have hcell := HC.out i hlt2
    rw [hcd, dgu_nat d (by omega), HQ.out] at hcell
    have hval := val_take 8 t i hlt2
    rw [hcd, dv_dgu d (by omega)] at hval
    have hle := val_le 8 (by omega) t (t.length - (i + 1)) (i + 1) (by omega)
    have hle2 := HV.out
    obtain ⟨v, HVV⟩ : ∃ v, Hid (val 8 (t.take i) = v) := ⟨_, rfl⟩
    rw [HVV.out] at hval ⊢
    have HVL := Lib.hid hval
    have b1 : v * 8 + d ≤ 18446744073709551615 := by omega
    clear hle hle2 hval hcd
    have j0 : (0 : Int) ≤ (i : Int) := by omega
    have j1 : (i : Int) < (n : Int) := by omega
    have d4 : decide ((8 : Int) ≤ (d : Int)) = false := decide_eq_false (by omega)
    have d5 : decide ((2305843009213693952 : Int) ≤ (v : Int)) = false := decide_eq_false (by omega)
    have d6 : decide (IntKind.u64.wrap (IntKind.u64.wrap 18446744073709551616 - 1) < (v : Int) * 8 + (d : Int)) = false := by rw [show IntKind.u64.wrap (IntKind.u64.wrap 18446744073709551616 - 1) = 18446744073709551615 by decide]; exact decide_eq_false (by omega)
    have d7 : decide ((v : Int) * 8 + (d : Int) < (v : Int) * 8) = false := decide_eq_false (by omega)
    rw [if_pos (by omega)] at hcell
    obtain ⟨y, HY⟩ : ∃ y : Int, Hid (((48 + d : Nat) : Int) = y) := ⟨_, rfl⟩
    have hy := HY.out
    rw [hy] at hcell
    have y1 : 48 ≤ y := by omega
    have y2 : y ≤ 57 := by omega
    have y3 : y - 48 = (d : Int) := by omega
    have d1 : decide (48 ≤ y) = true := decide_eq_true y1
    have d2 : decide (y ≤ 57) = true := decide_eq_true y2
    have d3 : (y == 95) = false := by rw [beq_eq_false_iff_ne]; omega
    clear hy
    go_wp2_with (go_at_call 52; refine (low_any _ _).mono ?_; rintro e w' ⟨rfl, rfl⟩)
    go_roundg (n - (i + 1))
    case measure => have := HGK.out; omega
    case rel => exact ⟨rfl, rfl, i + 1, by omega, rfl, by rw [HVL.out]; push_cast; rfl, rfl⟩
  · obtain rfl : i = n := by omega
    have j1 : ¬ ((i : Int) < (i : Int)) := by omega
    have he : val 8 (t.take i) = val 8 t := by rw [List.take_of_length_le (by have := HN.out; omega)]
    rw [he]
    go_wp2_with fail
    go_ret2
    exact ⟨rfl, HB.out⟩
set_option maxHeartbeats 4000000 in
set_option maxRecDepth 100000 in
theorem pu_0 (w : World) :
    Calls Tryd.prog 43 #[.string (S [48]), .int .i64 0, .int .i64 64] w fun e w' => e = .returned (.tuple #[.int .u64 0, .nilIface]) ∧ Below w.heap.size w w' := by
  have hsz : (S [48]).size = 1 := S_size _
  have hg0 : (((S [48])[0]'(by rw [hsz]; omega)).toNat : Int) = 48 := by rw [S_get [48] 0 (by simp)]; rfl
  have hx1 : (S [48]).extract 1 (S [48]).size = S [] := S_extract [48] []
  have hx2 : (S [48]).extract 1 1 = S [] := hx1
  obtain ⟨c, w1, hconv, hb, hs1, hc⟩ := conv_any [] w
  have hemp : (S [48]).toList.isEmpty = false := S_ne _ (by simp)
  have hszt : (S []).size = 0 := S_size []
  have HB := Lib.hid hb
  simp only [List.length_nil] at hconv
  clear hc hb
  rw [show S [] = ByteArray.empty from rfl] at hconv
  go_enter Tryd.func43, Tryd.ntmps43
  go_wp2_with (go_at_call 52; refine (low_any _ _).mono ?_; rintro e w' ⟨rfl, rfl⟩)
  refine wp_loop_rounds 1 ?_
  rw [rounds_succ]
  go_wp2_with fail
  go_ret2
  exact ⟨rfl, HB.out⟩
end Go.Proofs.YtpdfamigmkeflaaDoor.Ri
