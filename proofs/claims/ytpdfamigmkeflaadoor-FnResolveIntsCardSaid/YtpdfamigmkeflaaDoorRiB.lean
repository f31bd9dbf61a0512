/- Integers read from digits (strconv.ParseUint, ParseInt at base 0): the walks. -/
import Derived.Test.YtpdfamigmkeflaaDoorRiA
import Derived.WalkKit
import Derived.WalkSpells
import Derived.WalkLawsBesides
import Derived.Laws.IdiomStrings
import Derived.Lib.Strings
import Derived.Below
import Derived.BigGuard
import Derived.BigCall
import Derived.Deep.LoopGhost
namespace Go.Proofs.YtpdfamigmkeflaaDoor.Ri
open Go.RowKit
set_option linter.unusedVariables false
set_option linter.unusedSimpArgs false
/-- Bytes in memory. -/
def Cells (w : World) (b : Nat) (l : List UInt8) : Prop := ∀ j, (h : j < l.length) → w.cell? ⟨b, j, none⟩ = some (.int .u8 (l[j].toNat : Int))
theorem conv_any (l : List UInt8) (w : World) : ∃ c w', (convert 9 38 (.string (S l))).run Tryd.prog w = .ok (.slice (some ⟨w.heap.size, 0, none⟩) l.length c) w' ∧ Below w.heap.size w w' ∧ w'.heap.size = w.heap.size + 1 ∧ Cells w' w.heap.size l := by
  have hr := run_bytes_of_string (P := Tryd.prog) w 9 38 5 (S l) Tryd.underlying9 Tryd.underlying38 Tryd.underlying5
  have hsz := S_size l
  refine ⟨_, _, by rw [hsz] at hr; exact hr, (Below.refl _ _).drew.alloc (Nat.le_refl _) _, by simp, fun i hi => ?_⟩
  have hcell : (bytesRow (S l) (grownCap w l.length 0 5))[i]? = some (.int .u8 (l[i].toNat : Int)) := by
    unfold bytesRow
    rw [Array.getElem?_append_left (by unfold S; simp; exact hi)]
    unfold S
    simp [hi]
  rw [← hcell]
  generalize bytesRow (S l) (grownCap w l.length 0 5) = C
  generalize (C.size, C.size + 1) = fr
  have hh : (w.drew.alloc (.cells C 5 fr)).heap[w.heap.size]? = some (.cells C 5 fr) := by
    show (w.heap.push (.cells C 5 fr))[w.heap.size]? = _
    simp
  unfold World.cell?
  show (match (w.drew.alloc (.cells C 5 fr)).heap[w.heap.size]? with | some (.cells c _ _) => c[i]? | _ => none) = C[i]?
  rw [hh]
theorem S_ne (l : List UInt8) (h : 1 ≤ l.length) : (S l).toList.isEmpty = false := by
  rw [Lib.toList_data]
  unfold S
  cases l with
  | nil => simp at h
  | cons a b => rfl
theorem low_any (x : Int) (w : World) : Calls Tryd.prog 52 #[.int .u8 x] w fun e w' => e = .returned (.int .u8 (Go.bits .or .u8 x 32)) ∧ w' = w := by
  go_enter Tryd.func52, Tryd.ntmps52
  go_wp2_with fail
  go_ret
  exact ⟨rfl, rfl⟩
set_option maxHeartbeats 4000000 in
set_option maxRecDepth 100000 in
theorem pu_10 (t : List UInt8) (w : World) (ht : Dg 10 t) (h1 : 1 ≤ t.length) (h2 : t.length ≤ 100) (hv : val 10 t ≤ 18446744073709551615) (x : Int) (hx : ((t[0]'(by omega)).toNat : Int) = x) (h0 : (x == 48) = false) :
    Calls Tryd.prog 43 #[.string (S t), .int .i64 0, .int .i64 64] w fun e w' => e = .returned (.tuple #[.int .u64 (val 10 t), .nilIface]) ∧ Below w.heap.size w w' := by
  have hsz := S_size t
  have hg0 : (((S t)[0]'(by rw [hsz]; omega)).toNat : Int) = x := by rw [S_get t 0 (by omega)]; exact hx
  obtain ⟨c, w1, hconv, hb, hs1, hc⟩ := conv_any t w
  have hemp : (S t).toList.isEmpty = false := S_ne t h1
  obtain ⟨n, HN⟩ : ∃ n, Hid (t.length = n) := ⟨_, rfl⟩
  obtain ⟨q, HQ⟩ : ∃ q, Hid (w.heap.size = q) := ⟨_, rfl⟩
  have HT := Lib.hid ht
  have HV := Lib.hid hv
  have HC := Lib.hid hc
  have HB := Lib.hid hb
  rw [HN.out, HQ.out] at hconv
  clear ht hv hc hb
  go_enter Tryd.func43, Tryd.ntmps43
  go_wp2_with fail
  go_loopg [12, 13, 101] n (fun g s12 s13 s101 wr => wr = w1 ∧ s12 = .bool false ∧ ∃ i : Nat, i ≤ n ∧ g = n - i ∧ s13 = .int .u64 (val 10 (t.take i) : Nat) ∧ s101 = .int .i64 (i : Nat))
  case atStart => exact ⟨rfl, rfl, 0, Nat.zero_le _, rfl, rfl, rfl⟩
  obtain ⟨rfl, rfl, i, hi, hgk, rfl, rfl⟩ := hrel
  have HGK := Lib.hid hgk
  clear hgk
  by_cases hlt : i < n
  · have hlt2 : i < t.length := by rw [HN.out]; exact hlt
    obtain ⟨d, hd, hcd⟩ := HT.out t[i] (List.getElem_mem hlt2)
    have hcell := HC.out i hlt2
    rw [hcd, dgu_nat d (by omega), HQ.out] at hcell
    have hval := val_take 10 t i hlt2
    rw [hcd, dv_dgu d (by omega)] at hval
    have hle := val_le 10 (by omega) t (t.length - (i + 1)) (i + 1) (by omega)
    have hle2 := HV.out
    obtain ⟨v, HVV⟩ : ∃ v, Hid (val 10 (t.take i) = v) := ⟨_, rfl⟩
    rw [HVV.out] at hval ⊢
    have HVL := Lib.hid hval
    have b1 : v * 10 + d ≤ 18446744073709551615 := by omega
    clear hle hle2 hval hcd
    have j0 : (0 : Int) ≤ (i : Int) := by omega
    have j1 : (i : Int) < (n : Int) := by omega
    rw [if_pos (by omega)] at hcell
    obtain ⟨y, HY⟩ : ∃ y : Int, Hid (((48 + d : Nat) : Int) = y) := ⟨_, rfl⟩
    have hy := HY.out
    rw [hy] at hcell
    have y1 : 48 ≤ y := by omega
    have y2 : y ≤ 57 := by omega
    have y3 : y - 48 = (d : Int) := by omega
    have d1 : decide (48 ≤ y) = true := decide_eq_true y1
    have d2 : decide (y ≤ 57) = true := decide_eq_true y2
    have d3 : (y == 95) = false := by rw [beq_eq_false_iff_ne]; omega
    have d4 : decide ((10 : Int) ≤ (d : Int)) = false := decide_eq_false (by omega)
    have d5 : decide ((1844674407370955162 : Int) ≤ (v : Int)) = false := decide_eq_false (by omega)
    have d6 : decide (IntKind.u64.wrap (IntKind.u64.wrap 18446744073709551616 - 1) < (v : Int) * 10 + (d : Int)) = false := by rw [show IntKind.u64.wrap (IntKind.u64.wrap 18446744073709551616 - 1) = 18446744073709551615 by decide]; exact decide_eq_false (by omega)
    have d7 : decide ((v : Int) * 10 + (d : Int) < (v : Int) * 10) = false := decide_eq_false (by omega)
    clear hy
    go_wp2_with fail
    go_roundg (n - (i + 1))
    case measure => have := HGK.out; omega
    case rel => exact ⟨rfl, rfl, i + 1, by omega, rfl, by rw [HVL.out]; push_cast; rfl, rfl⟩
  · obtain rfl : i = n := by omega
    have j1 : ¬ ((i : Int) < (i : Int)) := by omega
    have he : val 10 (t.take i) = val 10 t := by rw [List.take_of_length_le (by have := HN.out; omega)]
    rw [he]
    go_wp2_with fail
    go_ret2
    exact ⟨rfl, HB.out⟩
end Go.Proofs.YtpdfamigmkeflaaDoor.Ri
