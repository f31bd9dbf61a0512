/- Base 64: the walk of the encoder. -/
import Derived.Test.YtdkhpngcomagnaaB6A
import Derived.Laws.MakeOwn
import Derived.Test.YtdkhpngcomagnaaSp
namespace Go.Proofs.Ytdkhpngcomagnaa.B6
open Go.RowKit
set_option linter.unusedVariables false
set_option linter.unusedSimpArgs false
/-- How many signs are written, without line feeds. -/
def enl (s : ByteArray) : Nat := (s.size + 2) / 3 * 4
/-- Are there line feeds? -/
def mlt (s : ByteArray) : Nat := if 70 ≤ enl s then 1 else 0
/-- How many are written after t lines. -/
def kat (s : ByteArray) (t : Nat) : Nat := min (70 * t) (enl s) + mlt s * t
/-- All that is written. -/
def full (s : ByteArray) : Nat := enl s + mlt s * ((enl s + 69) / 70)
/-- What is written at a place. -/
def ln (s : ByteArray) (x : Nat) : Int := if mlt s = 1 ∧ (x % 71 = 70 ∨ x + 1 = full s) then 10 else eb s (x - mlt s * (x / 71))
/-- The block when t lines are written. -/
structure Lines (s : ByteArray) (cu : List Value) (t : Nat) : Prop where
  len : cu.length = 2 * enl s + (enl s / 70 + 1)
  signs : ∀ i, i < enl s → cu[i]? = some (.int .u8 (eb s i))
  out : ∀ x, x < kat s t → cu[enl s + x]? = some (.int .u8 (ln s x))
theorem enl_le (s : ByteArray) (h : s.size ≤ 2000) : enl s ≤ 2668 := by unfold enl; omega
theorem splice_at {α : Type} (L : List α) (off : Nat) (cs : List α) (h : off + cs.length ≤ L.length) (i : Nat) :
    (splice L off cs)[i]? = if i < off then L[i]? else if i < off + cs.length then cs[i - off]? else L[i]? := by
  unfold splice
  by_cases h1 : i < off
  · rw [if_pos h1, List.getElem?_append_left (by simp; omega), List.getElem?_take_of_lt h1]
  · rw [if_neg h1, List.getElem?_append_right (by simp; omega)]
    have e : (L.take off).length = off := by simp; omega
    rw [e]
    by_cases h2 : i < off + cs.length
    · rw [if_pos h2, List.getElem?_append_left (by omega)]
    · rw [if_neg h2, List.getElem?_append_right (by omega), List.getElem?_drop]
      congr 1
      omega
theorem lines_copy {s : ByteArray} {cu : List Value} {t n : Nat} (h : Lines s cu t) (hm : mlt s = 0) (ht : 70 * t < enl s) (hn : 70 * t + n = min (70 * (t + 1)) (enl s)) {I : Nat} (hI : I = 70 * t) :
    Lines s (splice cu (enl s + kat s t) ((cu.drop I).take n)) (t + 1) := by
  subst hI
  have hl := h.len
  have hsm : enl s < 70 := by unfold mlt at hm; split at hm <;> omega
  have e1 : t = 0 := by omega
  subst e1
  have hk : kat s 0 = 0 := by unfold kat; rw [hm]; simp
  have hk1 : kat s (0 + 1) = enl s := by unfold kat; rw [hm]; simp; omega
  have hn' : n = enl s := by simp at hn; omega
  subst hn'
  have hcs : ((cu.drop (70 * 0)).take (enl s)).length = enl s := by simp; omega
  refine ⟨?_, fun i hi => ?_, fun x hx => ?_⟩
  · rw [length_splice _ _ _ (by rw [hcs, hk]; omega)]; exact hl
  · rw [splice_at _ _ _ (by rw [hcs, hk]; omega), if_pos (by omega)]; exact h.signs i hi
  · rw [hk1] at hx
    rw [splice_at _ _ _ (by rw [hcs, hk]; omega), if_neg (by omega), if_pos (by rw [hcs]; omega), List.getElem?_take_of_lt (by omega), List.getElem?_drop, hk]
    rw [show 70 * 0 + (enl s + x - (enl s + 0)) = x by omega, h.signs x hx]
    unfold ln
    rw [hm, if_neg (by omega)]
    simp
theorem lines_feed {s : ByteArray} {cu : List Value} {t n : Nat} (h : Lines s cu t) (hm : mlt s = 1) (ht : 70 * t < enl s) (hn : 70 * t + n = min (70 * (t + 1)) (enl s)) {I : Nat} (hI : I = 70 * t) :
    Lines s ((splice cu (enl s + kat s t) ((cu.drop I).take n)).set (enl s + (kat s t + n)) (.int .u8 10)) (t + 1) := by
  subst hI
  have hl := h.len
  have hsm : 70 ≤ enl s := by unfold mlt at hm; split at hm <;> omega
  have hn0 : 0 < n ∧ n ≤ 70 ∧ 70 * t + n ≤ enl s ∧ (n < 70 → 70 * t + n = enl s) := by omega
  have hk : kat s t = 71 * t := by unfold kat; rw [hm]; omega
  have hk1 : kat s (t + 1) = 71 * t + n + 1 := by unfold kat; rw [hm, ← hn]; omega
  have hfull : full s = enl s + (enl s + 69) / 70 := by unfold full; rw [hm]; omega
  have hcs : ((cu.drop (70 * t)).take n).length = n := by simp; omega
  have hfit : enl s + kat s t + ((cu.drop (70 * t)).take n).length ≤ cu.length := by rw [hcs, hk]; omega
  rw [hk] at hfit ⊢
  refine ⟨?_, fun i hi => ?_, fun x hx => ?_⟩
  · rw [List.length_set, length_splice _ _ _ hfit]; exact hl
  · rw [List.getElem?_set_ne (by omega), splice_at _ _ _ hfit, if_pos (by omega)]; exact h.signs i hi
  · rw [hk1] at hx
    by_cases e : x = 71 * t + n
    · subst e
      rw [List.getElem?_set_self (by rw [length_splice _ _ _ hfit]; omega)]
      unfold ln
      rw [if_pos]
      refine ⟨hm, ?_⟩
      by_cases e70 : n = 70
      · left; omega
      · right; rw [hfull]; omega
    · rw [List.getElem?_set_ne (by omega), splice_at _ _ _ hfit]
      by_cases e2 : x < 71 * t
      · rw [if_pos (by omega)]
        exact h.out x (by rw [hk]; omega)
      · rw [if_neg (by omega), if_pos (by rw [hcs]; omega), List.getElem?_take_of_lt (by omega), List.getElem?_drop]
        rw [show 70 * t + (enl s + x - (enl s + 71 * t)) = x - t by omega, h.signs _ (by omega)]
        unfold ln
        rw [hm, if_neg (by rw [hfull]; omega)]
        congr 3
        omega
theorem make_any (E : Nat) (hE : E ≤ 2668) : ∃ L0 : List Value, L0.length = 2 * E + (E / 70 + 1) ∧ ∀ w0 : World, (Instr.makeSlice 27 (.int .i64 ((E : Int) * 2 + ((E : Int) / 70 + 1))) (.int .i64 ((E : Int) * 2 + ((E : Int) / 70 + 1)))).run Try.prog w0 = .ok (.slice (some ⟨w0.heap.size, 0, none⟩) (2 * E + (E / 70 + 1)) (2 * E + (E / 70 + 1))) (w0.alloc (.cells L0.toArray 5)) := by
  have info5 : (Try.prog.info? 5).map (fun i => (i.zero, i.size, i.bytes)) = some (some (.int .u8 0), 1, 1) := by kernel_rfl
  obtain ⟨i0, hi, hz0, hz1, hz2⟩ := info_parts info5
  refine ⟨(madeCells (Value.int .u8 0).cells ((2 * E + (E / 70 + 1)) * i0.size)).toList, by rw [Array.length_toList, size_madeCells, hz1]; omega, fun w0 => ?_⟩
  have h := run_make (P := Try.prog) w0 27 5 i0 (.int .u8 0) Try.underlying27 hi hz0 .i64 .i64 ((E : Int) * 2 + ((E : Int) / 70 + 1)) ((E : Int) * 2 + ((E : Int) / 70 + 1)) (by omega) (by omega) (by rw [hz2]; omega) (by omega)
  rw [h, show ((E : Int) * 2 + ((E : Int) / 70 + 1)).toNat = 2 * E + (E / 70 + 1) by omega]
theorem str_of {w : World} {b o n c : Nat} {cu : List Value} {l : List Int} (h : w.heap[b]? = some (.cells cu.toArray 5 (0, 0))) (hl : l.length = n) (hc : ∀ x, x < n → cu[o + x]? = some (.int .u8 (l.getD x 0))) :
    (convert 27 9 (.slice (some ⟨b, o, none⟩) n c)).run Try.prog w = .ok (.string (strOfNums l)) w := by
  refine run_convert_bytes_arg w 27 5 Try.underlying27 Try.underlying5 b o n c l hl (fun i hi => ?_) 9 Try.underlying9
  rw [(cell_of h (o + i)).1]
  exact hc i (by omega)
def Sc (s : ByteArray) (w : World) (t I n k1 : Nat) (J : Int) : Nat → Value → World → Prop
  | 0, v, _ => v = .int .i64 (kat s t : Int)
  | 1, v, _ => v = .slice (some ⟨w.heap.size, enl s, none⟩) (2 * enl s + (enl s / 70 + 1) - enl s) (2 * enl s + (enl s / 70 + 1) - enl s)
  | 2, v, _ => v = .int .i64 (kat s t : Int)
  | 3, v, _ => v = .slice (some ⟨w.heap.size, enl s + kat s t, none⟩) (2 * enl s + (enl s / 70 + 1) - enl s - kat s t) (2 * enl s + (enl s / 70 + 1) - enl s - kat s t)
  | 4, v, _ => v = .slice (some ⟨w.heap.size, 0, none⟩) (enl s) (2 * enl s + (enl s / 70 + 1))
  | 5, v, _ => v = .int .i64 (I : Int)
  | 6, v, _ => v = .int .i64 J
  | 7, v, _ => v = .slice (some ⟨w.heap.size, I, none⟩) n (2 * enl s + (enl s / 70 + 1) - I)
  | 8, v, _ => v = .int .i64 (n : Int)
  | 9, v, _ => v = .int .i64 (k1 : Int)
  | 10, v, _ => v = .int .i64 (k1 : Int)
  | _, _, _ => True
theorem sc_mono {s : ByteArray} {w : World} {t I n k1 : Nat} {J : Int} {i : Nat} {v : Value} {w1 w2 : World} (h : Sc s w t I n k1 J i v w1) : Sc s w t I n k1 J i v w2 := by
  unfold Sc at h ⊢
  split at h <;> exact h
theorem copy_run (w : World) (ty : TypeId) (g o dLen dCap so sLen sCap n : Nat) (cu : List Value) (hg : w.heap[g]? = some (.cells cu.toArray 5 (0, 0))) (hn : n = Nat.min sLen dLen) (hfit : o + n ≤ cu.length) (hs : so + n ≤ cu.length)
    (h1 : ∀ v ∈ (cu.drop so).take n, v.oneCell' = true) :
    (Builtin.copy_ #[27, 27] ty #[.slice (some ⟨g, o, none⟩) dLen dCap, .slice (some ⟨g, so, none⟩) sLen sCap]).run Try.prog w = .ok (goInt n) (w.setRow g (splice cu o ((cu.drop so).take n)).toArray) := by
  have hl : ((cu.drop so).take n).length = n := by simp; omega
  have h := run_copy_row (P := Try.prog) w 27 27 ty 5 g o dLen dCap ⟨g, so, none⟩ sLen sCap cu.toArray 5 ((cu.drop so).take n) Try.underlying27 (by kernel_rfl) hg (by rw [hl]; exact hn) ?_ (by rw [hl]; simpa using hfit) h1
  · rw [h, hl]
    unfold splice
    simp [hl]
  · intro j v hj
    have hj2 : j < n := by
      by_cases h : j < n
      · exact h
      · rw [List.getElem?_eq_none (by omega)] at hj; cases hj
    rw [List.getElem?_take_of_lt hj2, List.getElem?_drop] at hj
    have e : ({ block := g, off := so } : Addr).add j = ⟨g, so + j, none⟩ := by
      unfold Addr.add
      split
      · rename_i h; subst h; rfl
      · rfl
    rw [e, (cell_of hg _).1]
    exact hj
theorem one_signs {s : ByteArray} {cu : List Value} {t : Nat} (h : Lines s cu t) (I n : Nat) (hi : I + n ≤ enl s) : ∀ v ∈ (cu.drop I).take n, v.oneCell' = true := by
  intro v hv
  obtain ⟨k, hk⟩ := List.mem_iff_getElem?.1 hv
  have hk2 : k < n := by
    by_cases hh : k < n
    · exact hh
    · rw [List.getElem?_eq_none (by simp; omega)] at hk; cases hk
  rw [List.getElem?_take_of_lt hk2, List.getElem?_drop, h.signs _ (by omega)] at hk
  cases hk
  rfl
set_option maxHeartbeats 4000000 in
set_option maxRecDepth 100000 in
theorem enc_any (s : ByteArray) (w : World) (hs : s.size ≤ 2000) :
    Calls Try.prog 7 #[.string s] w fun e w' => e = .returned (.string (strOfNums ((List.range (full s)).map (ln s)))) ∧ Below w.heap.size w w' := by
  have hE := enl_le s hs
  obtain ⟨L0, hL0, hmk⟩ := make_any (enl s) hE
  have eE : ((s.size : Int) + 2) / 3 * 4 = (enl s : Int) := by unfold enl; omega
  have hne : ¬ (2 * enl s + (enl s / 70 + 1) = enl s) := by omega
  go_enter Try.func7, Try.ntmps7
  go_wp2_with fail
  have hb0 : (w.alloc (.cells L0.toArray 5)).heap[w.heap.size]? = some (.cells L0.toArray 5 (0, 0)) := by
    show (w.heap.push _)[w.heap.size]? = _
    simp
  refine (zz_any s w.heap.size (enl s) _ _ hs rfl L0 hb0 (by omega) w.heap.size (Nat.le_refl _)).mono ?_
  rintro e w1 ⟨rfl, ⟨cu, hcu, hdone⟩, hb1, hz1⟩
  have HC := Lib.hid hcu
  have HD := Lib.hid hdone
  have HB := Lib.hid (((Below.refl w.heap.size w).alloc (Nat.le_refl _) _).trans hb1)
  clear hcu hdone hb1 hz1 hmk eE
  go_wp2_with fail
  go_loopw [8, 9, 10] (fun k i j wr => ∃ t I : Nat, Hid (I = 70 * t) ∧ i = .int .i64 (I : Nat) ∧ k = .int .i64 (kat s t : Nat) ∧ I < enl s + 70 ∧ (∃ cu, wr.heap[w.heap.size]? = some (.cells cu.toArray 5 (0, 0)) ∧ Lines s cu t) ∧ Below w.heap.size w wr) (fun _ i _ _ => enl s + 70 - (intOf i).toNat)
  case atStart => exact ⟨0, 0, rfl, rfl, by rw [show kat s 0 = 0 by unfold kat; simp]; rfl, by omega, ⟨cu, HC.out, ⟨by rw [HD.out.len]; exact hL0, HD.out.new, fun x hx => by rw [show kat s 0 = 0 by unfold kat; simp] at hx; omega⟩⟩, HB.out⟩
  case round =>
    obtain ⟨t, I, HI, rfl, rfl, ht, ⟨cu, hcu, hln⟩, hbel⟩ := hrel
    have hIt := HI.out
    have hlen := hln.len
    have HC := Lib.hid hcu
    have HLN := Lib.hid hln
    have HB := Lib.hid hbel
    have HLE := Lib.hid hlen
    clear hcu hln hbel hlen
    by_cases h : I < enl s
    · have h' : (I : Int) < (enl s : Int) := by omega
      by_cases h7 : I + 70 ≤ enl s
      · have hm : mlt s = 1 := by unfold mlt; rw [if_pos (by omega)]
        have hk : kat s t = 71 * t := by unfold kat; rw [hm]; omega
        have hln1 : decide (1 < (enl s : Int) / 70 + 1) = true := by simp; omega
        have hk1 : (kat s t : Int) + 70 + 1 ≤ (2 * enl s + (enl s / 70 + 1) - enl s : Nat) := by omega
        have hk2 : (0 : Int) ≤ (kat s t : Int) := by omega
        have hfit : kat s t ≤ 2 * enl s + (enl s / 70 + 1) - enl s := by omega
        have hne2 : ¬ (2 * enl s + (enl s / 70 + 1) - enl s = kat s t) := by omega
        have hne3 : ¬ (2 * enl s + (enl s / 70 + 1) = I) := by omega
        have hnmin : Hid (70 = Nat.min 70 (2 * enl s + (enl s / 70 + 1) - enl s - kat s t)) := (Nat.min_eq_left (by omega)).symm
        have hfitO : enl s + kat s t + 70 ≤ cu.length := by have := HLE.out; omega
        have hfitI : I + 70 ≤ cu.length := by have := HLE.out; omega
        have hone := one_signs HLN.out I 70 (by omega)
        have h70 : ¬ ((enl s : Int) < (I : Int) + 70) := by omega
        have hj0 : (0 : Int) ≤ (I : Int) + 70 := by omega
        have hj1 : (I : Int) + 70 ≤ 2 * (enl s : Int) + ((enl s : Int) / 70 + 1) := by omega
        have hj2 : (I : Int) ≤ max ((I : Int) + 70) 0 := by omega
        have hj3 : ((I : Int) + 70).toNat = I + 70 := by omega
        obtain ⟨k1, hK1⟩ : ∃ k1 : Nat, Hid (k1 = kat s t + 70) := ⟨_, rfl⟩
        have hsum : IntKind.i64.wrap ((kat s t : Int) + 70) = (k1 : Int) := by rw [hK1.out]; exact IntWalk.i64_in _ (by omega)
        have HK := Lib.hid hk
        have HM := Lib.hid hm
        clear hk hm hIt
        go_wp2_with fail
        refine Sp.region_specs_l (by kernel_rfl) _ (by kernel_rfl) (by kernel_rfl) (by kernel_rfl) rfl (by kernel_rfl) (Sc s w t I 70 k1 ((I : Int) + 70)) (fun L w' => Below w.heap.size w w' ∧ (L 8 = false → w'.heap[w.heap.size]? = some (.cells cu.toArray 5 (0, 0))) ∧ (L 8 = true → w'.heap[w.heap.size]? = some (.cells (splice cu (enl s + kat s t) ((cu.drop I).take 70)).toArray 5 (0, 0)))) (fun _ _ => True) ⟨HB.out.drew, fun _ => HC.out, fun h => by cases h⟩ (fun i v w w' _ h => sc_mono h) ?_ ?_
        · clear HC HB HI
          intro i hi L a w1 hL F hI
          have hcases : i = 0 ∨ i = 1 ∨ i = 2 ∨ i = 3 ∨ i = 4 ∨ i = 5 ∨ i = 6 ∨ i = 7 ∨ i = 8 ∨ i = 9 ∨ i = 10 := by have hi' : i < 11 := hi; omega
          rcases hcases with rfl | rfl | rfl | rfl | rfl | rfl | rfl | rfl | rfl | rfl | rfl
          · have d8 : a.tmps.getD 8 undef = .int .i64 (kat s t : Int) := F.out 8 (by kernel_rfl)
            exact Sp.sp_value rfl (Sp.wanted_none rfl) (v := .int .i64 (kat s t : Int)) (w' := w1) (by simp [execOp, Act.eval, d8, Sp.gd d8, go_sem]) ⟨hI.1, fun h => hI.2.1 (by simpa using h), fun h => hI.2.2 (by simpa using h)⟩ trivial rfl
          · have d7 : a.tmps.getD 7 undef = .slice (some ⟨w.heap.size, enl s, none⟩) (2 * enl s + (enl s / 70 + 1) - enl s) (2 * enl s + (enl s / 70 + 1) - enl s) := F.out 7 (by kernel_rfl)
            exact Sp.sp_value rfl (Sp.wanted_none rfl) (v := .slice (some ⟨w.heap.size, enl s, none⟩) (2 * enl s + (enl s / 70 + 1) - enl s) (2 * enl s + (enl s / 70 + 1) - enl s)) (w' := w1) (by simp [execOp, Act.eval, d7, Sp.gd d7, go_sem]) ⟨hI.1, fun h => hI.2.1 (by simpa using h), fun h => hI.2.2 (by simpa using h)⟩ trivial rfl
          · have d8 : a.tmps.getD 8 undef = .int .i64 (kat s t : Int) := F.out 8 (by kernel_rfl)
            exact Sp.sp_value rfl (Sp.wanted_none rfl) (v := .int .i64 (kat s t : Int)) (w' := w1) (by simp [execOp, Act.eval, d8, Sp.gd d8, go_sem]) ⟨hI.1, fun h => hI.2.1 (by simpa using h), fun h => hI.2.2 (by simpa using h)⟩ trivial rfl
          · have d48 : a.tmps.getD 48 undef = .slice (some ⟨w.heap.size, enl s, none⟩) (2 * enl s + (enl s / 70 + 1) - enl s) (2 * enl s + (enl s / 70 + 1) - enl s) := F.val 1 48 (by kernel_rfl) (by rfl)
            have d49 : a.tmps.getD 49 undef = .int .i64 (kat s t : Int) := F.val 2 49 (by kernel_rfl) (by rfl)
            exact Sp.sp_value rfl (Sp.wanted_none rfl) (v := .slice (some ⟨w.heap.size, enl s + kat s t, none⟩) (2 * enl s + (enl s / 70 + 1) - enl s - kat s t) (2 * enl s + (enl s / 70 + 1) - enl s - kat s t)) (w' := w1) (by simp [execOp, Act.eval, d48, Sp.gd d48, d49, Sp.gd d49, hfit, hne2, go_sem]) ⟨hI.1, fun h => hI.2.1 (by simpa using h), fun h => hI.2.2 (by simpa using h)⟩ trivial rfl
          · have d6 : a.tmps.getD 6 undef = .slice (some ⟨w.heap.size, 0, none⟩) (enl s) (2 * enl s + (enl s / 70 + 1)) := F.out 6 (by kernel_rfl)
            exact Sp.sp_value rfl (Sp.wanted_none rfl) (v := .slice (some ⟨w.heap.size, 0, none⟩) (enl s) (2 * enl s + (enl s / 70 + 1))) (w' := w1) (by simp [execOp, Act.eval, d6, Sp.gd d6, go_sem]) ⟨hI.1, fun h => hI.2.1 (by simpa using h), fun h => hI.2.2 (by simpa using h)⟩ trivial rfl
          · have d9 : a.tmps.getD 9 undef = .int .i64 (I : Int) := F.out 9 (by kernel_rfl)
            exact Sp.sp_value rfl (Sp.wanted_none rfl) (v := .int .i64 (I : Int)) (w' := w1) (by simp [execOp, Act.eval, d9, Sp.gd d9, go_sem]) ⟨hI.1, fun h => hI.2.1 (by simpa using h), fun h => hI.2.2 (by simpa using h)⟩ trivial rfl
          · have d10 : a.tmps.getD 10 undef = .int .i64 ((I : Int) + 70) := F.out 10 (by kernel_rfl)
            exact Sp.sp_value rfl (Sp.wanted_none rfl) (v := .int .i64 ((I : Int) + 70)) (w' := w1) (by simp [execOp, Act.eval, d10, Sp.gd d10, go_sem]) ⟨hI.1, fun h => hI.2.1 (by simpa using h), fun h => hI.2.2 (by simpa using h)⟩ trivial rfl
          · have d51 : a.tmps.getD 51 undef = .slice (some ⟨w.heap.size, 0, none⟩) (enl s) (2 * enl s + (enl s / 70 + 1)) := F.val 4 51 (by kernel_rfl) (by rfl)
            have d52 : a.tmps.getD 52 undef = .int .i64 (I : Int) := F.val 5 52 (by kernel_rfl) (by rfl)
            have d53 : a.tmps.getD 53 undef = .int .i64 ((I : Int) + 70) := F.val 6 53 (by kernel_rfl) (by rfl)
            exact Sp.sp_value rfl (Sp.wanted_none rfl) (v := .slice (some ⟨w.heap.size, I, none⟩) 70 (2 * enl s + (enl s / 70 + 1) - I)) (w' := w1) (by simp [execOp, Act.eval, d51, Sp.gd d51, d52, Sp.gd d52, d53, Sp.gd d53, hne3, hj0, hj1, hj2, hj3, go_sem]) ⟨hI.1, fun h => hI.2.1 (by simpa using h), fun h => hI.2.2 (by simpa using h)⟩ trivial rfl
          · have d50 : a.tmps.getD 50 undef = .slice (some ⟨w.heap.size, enl s + kat s t, none⟩) (2 * enl s + (enl s / 70 + 1) - enl s - kat s t) (2 * enl s + (enl s / 70 + 1) - enl s - kat s t) := F.val 3 50 (by kernel_rfl) (by rfl)
            have d54 : a.tmps.getD 54 undef = .slice (some ⟨w.heap.size, I, none⟩) 70 (2 * enl s + (enl s / 70 + 1) - I) := F.val 7 54 (by kernel_rfl) (by rfl)
            obtain ⟨hI1, hI2, _⟩ := hI
            have hcell := hI2 hL
            have hrun := copy_run w1 3 w.heap.size (enl s + kat s t) (2 * enl s + (enl s / 70 + 1) - enl s - kat s t) (2 * enl s + (enl s / 70 + 1) - enl s - kat s t) I 70 (2 * enl s + (enl s / 70 + 1) - I) 70 cu hcell hnmin.out hfitO hfitI hone
            exact Sp.sp_value rfl (Sp.wanted_none rfl) (v := .int .i64 (70 : Int)) (w' := w1.setRow w.heap.size (splice cu (enl s + kat s t) ((cu.drop I).take 70)).toArray) (by simp [execOp, Act.eval, d50, Sp.gd d50, d54, Sp.gd d54, resolve, invoke, builtin, hrun, Result.andThen, goInt, go_sem]) ⟨below_setRow hI1 (Nat.le_refl _) _, fun h => by simp at h, fun _ => setRow_heap w1 _ _ _ _ _ hcell⟩ trivial rfl
          · have d47 : a.tmps.getD 47 undef = .int .i64 (kat s t : Int) := F.val 0 47 (by kernel_rfl) (by rfl)
            have d55 : a.tmps.getD 55 undef = .int .i64 (70 : Int) := F.val 8 55 (by kernel_rfl) (by rfl)
            exact Sp.sp_value rfl (Sp.wanted_none rfl) (v := .int .i64 (k1 : Int)) (w' := w1) (by simp [execOp, Act.eval, d47, Sp.gd d47, d55, Sp.gd d55, hsum, go_sem]) ⟨hI.1, fun h => hI.2.1 (by simpa using h), fun h => hI.2.2 (by simpa using h)⟩ trivial rfl
          · have d56 : a.tmps.getD 56 undef = .int .i64 (k1 : Int) := F.val 9 56 (by kernel_rfl) (by rfl)
            exact Sp.sp_value rfl (Sp.wanted_none rfl) (v := .int .i64 (k1 : Int)) (w' := w1) (by simp [execOp, Act.eval, d56, Sp.gd d56, go_sem]) ⟨hI.1, fun h => hI.2.1 (by simpa using h), fun h => hI.2.2 (by simpa using h)⟩ trivial rfl
        · intro val L w1 hall hI hS
          obtain ⟨hB1, -, hC1⟩ := hI
          have hC2 := hC1 (hall 8 (by decide))
          have h10 : val 10 = .int .i64 (k1 : Int) := hS 10 (by decide)
          simp only [Sp.setAll, List.setIfInBounds_toArray, List.set_cons_zero, List.set_cons_succ, h10]
          clear hC1 hS h10
          have HC2 := Lib.hid hC2
          have HB2 := Lib.hid hB1
          clear hC2 hB1
          obtain ⟨vx, cx, fx⟩ : ∃ v, w1.cell? ⟨w.heap.size, enl s + k1, none⟩ = some v ∧ w1.frozen? ⟨w.heap.size, enl s + k1, none⟩ = false := by
            obtain ⟨e1, e2⟩ := cell_of HC2.out (enl s + k1)
            rw [e1]
            have hl := length_splice cu (enl s + kat s t) ((cu.drop I).take 70) (by have := HLE.out; simp; omega)
            have := HLE.out
            have := hK1.out
            exact ⟨_, List.getElem?_eq_getElem (by omega), e2⟩
          have hk1b : (k1 : Int) < (2 * enl s + (enl s / 70 + 1) - enl s : Nat) := by have := hK1.out; omega
          go_wp2_with fail
          exact ⟨⟨t + 1, (I + 70), (show I + 70 = 70 * (t + 1) by rw [HI.out]; omega), by go_num, by rw [show kat s (t + 1) = k1 + 1 by have := hK1.out; have := HM.out; have := HI.out; unfold kat at *; rw [HM.out] at *; omega]; go_num, by omega, ⟨_, heap_set HC2.out _ _, by rw [hK1.out]; exact lines_feed HLN.out HM.out (by have := HI.out; omega) (by have := HI.out; omega) HI.out⟩, HB2.out.setCell (Nat.le_refl _) _⟩, by simp [intOf]; omega⟩
      · have h70 : (enl s : Int) < (I : Int) + 70 := by omega
        obtain ⟨n, HN⟩ : ∃ n : Nat, Hid (enl s - I = n) := ⟨_, rfl⟩
        have hnI : I + n = enl s := by have := HN.out; omega
        have hIle : ¬ (enl s < I) := by omega
        have hj0 : (0 : Int) ≤ (enl s : Int) := by omega
        have hj1 : (enl s : Int) ≤ 2 * (enl s : Int) + ((enl s : Int) / 70 + 1) := by omega
        have hj2 : (I : Int) ≤ max (enl s : Int) 0 := by omega
        have hj3 : ((enl s : Int)).toNat = enl s := by omega
        by_cases hm7 : 70 ≤ enl s
        · have hm : mlt s = 1 := by unfold mlt; rw [if_pos hm7]
          have hk : kat s t = 71 * t := by unfold kat; rw [hm]; omega
          have hln1 : decide (1 < (enl s : Int) / 70 + 1) = true := by simp; omega
          have hk1 : (kat s t : Int) + n + 1 ≤ (2 * enl s + (enl s / 70 + 1) - enl s : Nat) := by omega
          have hk2 : (0 : Int) ≤ (kat s t : Int) := by omega
          have hfit : kat s t ≤ 2 * enl s + (enl s / 70 + 1) - enl s := by omega
          have hne2 : ¬ (2 * enl s + (enl s / 70 + 1) - enl s = kat s t) := by omega
          have hne3 : ¬ (2 * enl s + (enl s / 70 + 1) = I) := by omega
          have hnmin : Hid (n = Nat.min n (2 * enl s + (enl s / 70 + 1) - enl s - kat s t)) := (Nat.min_eq_left (by omega)).symm
          have hfitO : enl s + kat s t + n ≤ cu.length := by have := HLE.out; omega
          have hfitI : I + n ≤ cu.length := by have := HLE.out; omega
          have hone := one_signs HLN.out I n (by omega)
          obtain ⟨k1, hK1⟩ : ∃ k1 : Nat, Hid (k1 = kat s t + n) := ⟨_, rfl⟩
          have hsum : IntKind.i64.wrap ((kat s t : Int) + (n : Int)) = (k1 : Int) := by rw [hK1.out]; exact IntWalk.i64_in _ (by omega)
          have HK := Lib.hid hk
          have HM := Lib.hid hm
          have HNI := Lib.hid hnI
          clear hk hm hIt hnI
          go_wp2_with fail
          refine Sp.region_specs_l (by kernel_rfl) _ (by kernel_rfl) (by kernel_rfl) (by kernel_rfl) rfl (by kernel_rfl) (Sc s w t I n k1 (enl s : Int)) (fun L w' => Below w.heap.size w w' ∧ (L 8 = false → w'.heap[w.heap.size]? = some (.cells cu.toArray 5 (0, 0))) ∧ (L 8 = true → w'.heap[w.heap.size]? = some (.cells (splice cu (enl s + kat s t) ((cu.drop I).take n)).toArray 5 (0, 0)))) (fun _ _ => True) ⟨HB.out.drew, fun _ => HC.out, fun h => by cases h⟩ (fun i v w w' _ h => sc_mono h) ?_ ?_
          · clear HC HB HI
            intro i hi L a w1 hL F hI
            have hcases : i = 0 ∨ i = 1 ∨ i = 2 ∨ i = 3 ∨ i = 4 ∨ i = 5 ∨ i = 6 ∨ i = 7 ∨ i = 8 ∨ i = 9 ∨ i = 10 := by have hi' : i < 11 := hi; omega
            rcases hcases with rfl | rfl | rfl | rfl | rfl | rfl | rfl | rfl | rfl | rfl | rfl
            · have d8 : a.tmps.getD 8 undef = .int .i64 (kat s t : Int) := F.out 8 (by kernel_rfl)
              exact Sp.sp_value rfl (Sp.wanted_none rfl) (v := .int .i64 (kat s t : Int)) (w' := w1) (by simp [execOp, Act.eval, d8, Sp.gd d8, go_sem]) ⟨hI.1, fun h => hI.2.1 (by simpa using h), fun h => hI.2.2 (by simpa using h)⟩ trivial rfl
            · have d7 : a.tmps.getD 7 undef = .slice (some ⟨w.heap.size, enl s, none⟩) (2 * enl s + (enl s / 70 + 1) - enl s) (2 * enl s + (enl s / 70 + 1) - enl s) := F.out 7 (by kernel_rfl)
              exact Sp.sp_value rfl (Sp.wanted_none rfl) (v := .slice (some ⟨w.heap.size, enl s, none⟩) (2 * enl s + (enl s / 70 + 1) - enl s) (2 * enl s + (enl s / 70 + 1) - enl s)) (w' := w1) (by simp [execOp, Act.eval, d7, Sp.gd d7, go_sem]) ⟨hI.1, fun h => hI.2.1 (by simpa using h), fun h => hI.2.2 (by simpa using h)⟩ trivial rfl
            · have d8 : a.tmps.getD 8 undef = .int .i64 (kat s t : Int) := F.out 8 (by kernel_rfl)
              exact Sp.sp_value rfl (Sp.wanted_none rfl) (v := .int .i64 (kat s t : Int)) (w' := w1) (by simp [execOp, Act.eval, d8, Sp.gd d8, go_sem]) ⟨hI.1, fun h => hI.2.1 (by simpa using h), fun h => hI.2.2 (by simpa using h)⟩ trivial rfl
            · have d48 : a.tmps.getD 48 undef = .slice (some ⟨w.heap.size, enl s, none⟩) (2 * enl s + (enl s / 70 + 1) - enl s) (2 * enl s + (enl s / 70 + 1) - enl s) := F.val 1 48 (by kernel_rfl) (by rfl)
              have d49 : a.tmps.getD 49 undef = .int .i64 (kat s t : Int) := F.val 2 49 (by kernel_rfl) (by rfl)
              exact Sp.sp_value rfl (Sp.wanted_none rfl) (v := .slice (some ⟨w.heap.size, enl s + kat s t, none⟩) (2 * enl s + (enl s / 70 + 1) - enl s - kat s t) (2 * enl s + (enl s / 70 + 1) - enl s - kat s t)) (w' := w1) (by simp [execOp, Act.eval, d48, Sp.gd d48, d49, Sp.gd d49, hfit, hne2, go_sem]) ⟨hI.1, fun h => hI.2.1 (by simpa using h), fun h => hI.2.2 (by simpa using h)⟩ trivial rfl
            · have d6 : a.tmps.getD 6 undef = .slice (some ⟨w.heap.size, 0, none⟩) (enl s) (2 * enl s + (enl s / 70 + 1)) := F.out 6 (by kernel_rfl)
              exact Sp.sp_value rfl (Sp.wanted_none rfl) (v := .slice (some ⟨w.heap.size, 0, none⟩) (enl s) (2 * enl s + (enl s / 70 + 1))) (w' := w1) (by simp [execOp, Act.eval, d6, Sp.gd d6, go_sem]) ⟨hI.1, fun h => hI.2.1 (by simpa using h), fun h => hI.2.2 (by simpa using h)⟩ trivial rfl
            · have d9 : a.tmps.getD 9 undef = .int .i64 (I : Int) := F.out 9 (by kernel_rfl)
              exact Sp.sp_value rfl (Sp.wanted_none rfl) (v := .int .i64 (I : Int)) (w' := w1) (by simp [execOp, Act.eval, d9, Sp.gd d9, go_sem]) ⟨hI.1, fun h => hI.2.1 (by simpa using h), fun h => hI.2.2 (by simpa using h)⟩ trivial rfl
            · have d10 : a.tmps.getD 10 undef = .int .i64 (enl s : Int) := F.out 10 (by kernel_rfl)
              exact Sp.sp_value rfl (Sp.wanted_none rfl) (v := .int .i64 (enl s : Int)) (w' := w1) (by simp [execOp, Act.eval, d10, Sp.gd d10, go_sem]) ⟨hI.1, fun h => hI.2.1 (by simpa using h), fun h => hI.2.2 (by simpa using h)⟩ trivial rfl
            · have d51 : a.tmps.getD 51 undef = .slice (some ⟨w.heap.size, 0, none⟩) (enl s) (2 * enl s + (enl s / 70 + 1)) := F.val 4 51 (by kernel_rfl) (by rfl)
              have d52 : a.tmps.getD 52 undef = .int .i64 (I : Int) := F.val 5 52 (by kernel_rfl) (by rfl)
              have d53 : a.tmps.getD 53 undef = .int .i64 (enl s : Int) := F.val 6 53 (by kernel_rfl) (by rfl)
              exact Sp.sp_value rfl (Sp.wanted_none rfl) (v := .slice (some ⟨w.heap.size, I, none⟩) n (2 * enl s + (enl s / 70 + 1) - I)) (w' := w1) (by simp [execOp, Act.eval, d51, Sp.gd d51, d52, Sp.gd d52, d53, Sp.gd d53, hne3, hj0, hj1, hj2, hj3, HN.out, hIle, go_sem]) ⟨hI.1, fun h => hI.2.1 (by simpa using h), fun h => hI.2.2 (by simpa using h)⟩ trivial rfl
            · have d50 : a.tmps.getD 50 undef = .slice (some ⟨w.heap.size, enl s + kat s t, none⟩) (2 * enl s + (enl s / 70 + 1) - enl s - kat s t) (2 * enl s + (enl s / 70 + 1) - enl s - kat s t) := F.val 3 50 (by kernel_rfl) (by rfl)
              have d54 : a.tmps.getD 54 undef = .slice (some ⟨w.heap.size, I, none⟩) n (2 * enl s + (enl s / 70 + 1) - I) := F.val 7 54 (by kernel_rfl) (by rfl)
              obtain ⟨hI1, hI2, _⟩ := hI
              have hcell := hI2 hL
              have hrun := copy_run w1 3 w.heap.size (enl s + kat s t) (2 * enl s + (enl s / 70 + 1) - enl s - kat s t) (2 * enl s + (enl s / 70 + 1) - enl s - kat s t) I n (2 * enl s + (enl s / 70 + 1) - I) n cu hcell hnmin.out hfitO hfitI hone
              exact Sp.sp_value rfl (Sp.wanted_none rfl) (v := .int .i64 (n : Int)) (w' := w1.setRow w.heap.size (splice cu (enl s + kat s t) ((cu.drop I).take n)).toArray) (by simp [execOp, Act.eval, d50, Sp.gd d50, d54, Sp.gd d54, resolve, invoke, builtin, hrun, Result.andThen, goInt, go_sem]) ⟨below_setRow hI1 (Nat.le_refl _) _, fun h => by simp at h, fun _ => setRow_heap w1 _ _ _ _ _ hcell⟩ trivial rfl
            · have d47 : a.tmps.getD 47 undef = .int .i64 (kat s t : Int) := F.val 0 47 (by kernel_rfl) (by rfl)
              have d55 : a.tmps.getD 55 undef = .int .i64 (n : Int) := F.val 8 55 (by kernel_rfl) (by rfl)
              exact Sp.sp_value rfl (Sp.wanted_none rfl) (v := .int .i64 (k1 : Int)) (w' := w1) (by simp [execOp, Act.eval, d47, Sp.gd d47, d55, Sp.gd d55, hsum, go_sem]) ⟨hI.1, fun h => hI.2.1 (by simpa using h), fun h => hI.2.2 (by simpa using h)⟩ trivial rfl
            · have d56 : a.tmps.getD 56 undef = .int .i64 (k1 : Int) := F.val 9 56 (by kernel_rfl) (by rfl)
              exact Sp.sp_value rfl (Sp.wanted_none rfl) (v := .int .i64 (k1 : Int)) (w' := w1) (by simp [execOp, Act.eval, d56, Sp.gd d56, go_sem]) ⟨hI.1, fun h => hI.2.1 (by simpa using h), fun h => hI.2.2 (by simpa using h)⟩ trivial rfl
          · intro val L w1 hall hI hS
            obtain ⟨hB1, -, hC1⟩ := hI
            have hC2 := hC1 (hall 8 (by decide))
            have h10 : val 10 = .int .i64 (k1 : Int) := hS 10 (by decide)
            simp only [Sp.setAll, List.setIfInBounds_toArray, List.set_cons_zero, List.set_cons_succ, h10]
            clear hC1 hS h10
            have HC2 := Lib.hid hC2
            have HB2 := Lib.hid hB1
            clear hC2 hB1
            obtain ⟨vx, cx, fx⟩ : ∃ v, w1.cell? ⟨w.heap.size, enl s + k1, none⟩ = some v ∧ w1.frozen? ⟨w.heap.size, enl s + k1, none⟩ = false := by
              obtain ⟨e1, e2⟩ := cell_of HC2.out (enl s + k1)
              rw [e1]
              have hl := length_splice cu (enl s + kat s t) ((cu.drop I).take n) (by have := HLE.out; simp; omega)
              have := HLE.out
              have := hK1.out
              exact ⟨_, List.getElem?_eq_getElem (by omega), e2⟩
            have hk1b : (k1 : Int) < (2 * enl s + (enl s / 70 + 1) - enl s : Nat) := by have := hK1.out; omega
            go_wp2_with fail
            exact ⟨⟨t + 1, (I + 70), (show I + 70 = 70 * (t + 1) by rw [HI.out]; omega), by go_num, by rw [show kat s (t + 1) = k1 + 1 by have := hK1.out; have := HM.out; have := HI.out; have := HNI.out; unfold kat at *; rw [HM.out] at *; omega]; go_num, by omega, ⟨_, heap_set HC2.out _ _, by rw [hK1.out]; exact lines_feed HLN.out HM.out (by have := HI.out; have := HNI.out; omega) (by have := HI.out; have := HNI.out; omega) HI.out⟩, HB2.out.setCell (Nat.le_refl _) _⟩, by simp [intOf]; omega⟩
        · have hm : mlt s = 0 := by unfold mlt; rw [if_neg hm7]
          have hk : kat s t = I := by unfold kat; rw [hm]; omega
          have hln1 : decide (1 < (enl s : Int) / 70 + 1) = false := by simp; omega
          have hk1 : (kat s t : Int) + n + 1 ≤ (2 * enl s + (enl s / 70 + 1) - enl s : Nat) := by omega
          have hk2 : (0 : Int) ≤ (kat s t : Int) := by omega
          have hfit : kat s t ≤ 2 * enl s + (enl s / 70 + 1) - enl s := by omega
          have hne2 : ¬ (2 * enl s + (enl s / 70 + 1) - enl s = kat s t) := by omega
          have hne3 : ¬ (2 * enl s + (enl s / 70 + 1) = I) := by omega
          have hnmin : Hid (n = Nat.min n (2 * enl s + (enl s / 70 + 1) - enl s - kat s t)) := (Nat.min_eq_left (by omega)).symm
          have hfitO : enl s + kat s t + n ≤ cu.length := by have := HLE.out; omega
          have hfitI : I + n ≤ cu.length := by have := HLE.out; omega
          have hone := one_signs HLN.out I n (by omega)
          obtain ⟨k1, hK1⟩ : ∃ k1 : Nat, Hid (k1 = kat s t + n) := ⟨_, rfl⟩
          have hsum : IntKind.i64.wrap ((kat s t : Int) + (n : Int)) = (k1 : Int) := by rw [hK1.out]; exact IntWalk.i64_in _ (by omega)
          have HK := Lib.hid hk
          have HM := Lib.hid hm
          have HNI := Lib.hid hnI
          clear hk hm hIt hnI
          go_wp2_with fail
          refine Sp.region_specs_l (by kernel_rfl) _ (by kernel_rfl) (by kernel_rfl) (by kernel_rfl) rfl (by kernel_rfl) (Sc s w t I n k1 (enl s : Int)) (fun L w' => Below w.heap.size w w' ∧ (L 8 = false → w'.heap[w.heap.size]? = some (.cells cu.toArray 5 (0, 0))) ∧ (L 8 = true → w'.heap[w.heap.size]? = some (.cells (splice cu (enl s + kat s t) ((cu.drop I).take n)).toArray 5 (0, 0)))) (fun _ _ => True) ⟨HB.out.drew, fun _ => HC.out, fun h => by cases h⟩ (fun i v w w' _ h => sc_mono h) ?_ ?_
          · clear HC HB HI
            intro i hi L a w1 hL F hI
            have hcases : i = 0 ∨ i = 1 ∨ i = 2 ∨ i = 3 ∨ i = 4 ∨ i = 5 ∨ i = 6 ∨ i = 7 ∨ i = 8 ∨ i = 9 ∨ i = 10 := by have hi' : i < 11 := hi; omega
            rcases hcases with rfl | rfl | rfl | rfl | rfl | rfl | rfl | rfl | rfl | rfl | rfl
            · have d8 : a.tmps.getD 8 undef = .int .i64 (kat s t : Int) := F.out 8 (by kernel_rfl)
              exact Sp.sp_value rfl (Sp.wanted_none rfl) (v := .int .i64 (kat s t : Int)) (w' := w1) (by simp [execOp, Act.eval, d8, Sp.gd d8, go_sem]) ⟨hI.1, fun h => hI.2.1 (by simpa using h), fun h => hI.2.2 (by simpa using h)⟩ trivial rfl
            · have d7 : a.tmps.getD 7 undef = .slice (some ⟨w.heap.size, enl s, none⟩) (2 * enl s + (enl s / 70 + 1) - enl s) (2 * enl s + (enl s / 70 + 1) - enl s) := F.out 7 (by kernel_rfl)
              exact Sp.sp_value rfl (Sp.wanted_none rfl) (v := .slice (some ⟨w.heap.size, enl s, none⟩) (2 * enl s + (enl s / 70 + 1) - enl s) (2 * enl s + (enl s / 70 + 1) - enl s)) (w' := w1) (by simp [execOp, Act.eval, d7, Sp.gd d7, go_sem]) ⟨hI.1, fun h => hI.2.1 (by simpa using h), fun h => hI.2.2 (by simpa using h)⟩ trivial rfl
            · have d8 : a.tmps.getD 8 undef = .int .i64 (kat s t : Int) := F.out 8 (by kernel_rfl)
              exact Sp.sp_value rfl (Sp.wanted_none rfl) (v := .int .i64 (kat s t : Int)) (w' := w1) (by simp [execOp, Act.eval, d8, Sp.gd d8, go_sem]) ⟨hI.1, fun h => hI.2.1 (by simpa using h), fun h => hI.2.2 (by simpa using h)⟩ trivial rfl
            · have d48 : a.tmps.getD 48 undef = .slice (some ⟨w.heap.size, enl s, none⟩) (2 * enl s + (enl s / 70 + 1) - enl s) (2 * enl s + (enl s / 70 + 1) - enl s) := F.val 1 48 (by kernel_rfl) (by rfl)
              have d49 : a.tmps.getD 49 undef = .int .i64 (kat s t : Int) := F.val 2 49 (by kernel_rfl) (by rfl)
              exact Sp.sp_value rfl (Sp.wanted_none rfl) (v := .slice (some ⟨w.heap.size, enl s + kat s t, none⟩) (2 * enl s + (enl s / 70 + 1) - enl s - kat s t) (2 * enl s + (enl s / 70 + 1) - enl s - kat s t)) (w' := w1) (by simp [execOp, Act.eval, d48, Sp.gd d48, d49, Sp.gd d49, hfit, hne2, go_sem]) ⟨hI.1, fun h => hI.2.1 (by simpa using h), fun h => hI.2.2 (by simpa using h)⟩ trivial rfl
            · have d6 : a.tmps.getD 6 undef = .slice (some ⟨w.heap.size, 0, none⟩) (enl s) (2 * enl s + (enl s / 70 + 1)) := F.out 6 (by kernel_rfl)
              exact Sp.sp_value rfl (Sp.wanted_none rfl) (v := .slice (some ⟨w.heap.size, 0, none⟩) (enl s) (2 * enl s + (enl s / 70 + 1))) (w' := w1) (by simp [execOp, Act.eval, d6, Sp.gd d6, go_sem]) ⟨hI.1, fun h => hI.2.1 (by simpa using h), fun h => hI.2.2 (by simpa using h)⟩ trivial rfl
            · have d9 : a.tmps.getD 9 undef = .int .i64 (I : Int) := F.out 9 (by kernel_rfl)
              exact Sp.sp_value rfl (Sp.wanted_none rfl) (v := .int .i64 (I : Int)) (w' := w1) (by simp [execOp, Act.eval, d9, Sp.gd d9, go_sem]) ⟨hI.1, fun h => hI.2.1 (by simpa using h), fun h => hI.2.2 (by simpa using h)⟩ trivial rfl
            · have d10 : a.tmps.getD 10 undef = .int .i64 (enl s : Int) := F.out 10 (by kernel_rfl)
              exact Sp.sp_value rfl (Sp.wanted_none rfl) (v := .int .i64 (enl s : Int)) (w' := w1) (by simp [execOp, Act.eval, d10, Sp.gd d10, go_sem]) ⟨hI.1, fun h => hI.2.1 (by simpa using h), fun h => hI.2.2 (by simpa using h)⟩ trivial rfl
            · have d51 : a.tmps.getD 51 undef = .slice (some ⟨w.heap.size, 0, none⟩) (enl s) (2 * enl s + (enl s / 70 + 1)) := F.val 4 51 (by kernel_rfl) (by rfl)
              have d52 : a.tmps.getD 52 undef = .int .i64 (I : Int) := F.val 5 52 (by kernel_rfl) (by rfl)
              have d53 : a.tmps.getD 53 undef = .int .i64 (enl s : Int) := F.val 6 53 (by kernel_rfl) (by rfl)
              exact Sp.sp_value rfl (Sp.wanted_none rfl) (v := .slice (some ⟨w.heap.size, I, none⟩) n (2 * enl s + (enl s / 70 + 1) - I)) (w' := w1) (by simp [execOp, Act.eval, d51, Sp.gd d51, d52, Sp.gd d52, d53, Sp.gd d53, hne3, hj0, hj1, hj2, hj3, HN.out, hIle, go_sem]) ⟨hI.1, fun h => hI.2.1 (by simpa using h), fun h => hI.2.2 (by simpa using h)⟩ trivial rfl
            · have d50 : a.tmps.getD 50 undef = .slice (some ⟨w.heap.size, enl s + kat s t, none⟩) (2 * enl s + (enl s / 70 + 1) - enl s - kat s t) (2 * enl s + (enl s / 70 + 1) - enl s - kat s t) := F.val 3 50 (by kernel_rfl) (by rfl)
              have d54 : a.tmps.getD 54 undef = .slice (some ⟨w.heap.size, I, none⟩) n (2 * enl s + (enl s / 70 + 1) - I) := F.val 7 54 (by kernel_rfl) (by rfl)
              obtain ⟨hI1, hI2, _⟩ := hI
              have hcell := hI2 hL
              have hrun := copy_run w1 3 w.heap.size (enl s + kat s t) (2 * enl s + (enl s / 70 + 1) - enl s - kat s t) (2 * enl s + (enl s / 70 + 1) - enl s - kat s t) I n (2 * enl s + (enl s / 70 + 1) - I) n cu hcell hnmin.out hfitO hfitI hone
              exact Sp.sp_value rfl (Sp.wanted_none rfl) (v := .int .i64 (n : Int)) (w' := w1.setRow w.heap.size (splice cu (enl s + kat s t) ((cu.drop I).take n)).toArray) (by simp [execOp, Act.eval, d50, Sp.gd d50, d54, Sp.gd d54, resolve, invoke, builtin, hrun, Result.andThen, goInt, go_sem]) ⟨below_setRow hI1 (Nat.le_refl _) _, fun h => by simp at h, fun _ => setRow_heap w1 _ _ _ _ _ hcell⟩ trivial rfl
            · have d47 : a.tmps.getD 47 undef = .int .i64 (kat s t : Int) := F.val 0 47 (by kernel_rfl) (by rfl)
              have d55 : a.tmps.getD 55 undef = .int .i64 (n : Int) := F.val 8 55 (by kernel_rfl) (by rfl)
              exact Sp.sp_value rfl (Sp.wanted_none rfl) (v := .int .i64 (k1 : Int)) (w' := w1) (by simp [execOp, Act.eval, d47, Sp.gd d47, d55, Sp.gd d55, hsum, go_sem]) ⟨hI.1, fun h => hI.2.1 (by simpa using h), fun h => hI.2.2 (by simpa using h)⟩ trivial rfl
            · have d56 : a.tmps.getD 56 undef = .int .i64 (k1 : Int) := F.val 9 56 (by kernel_rfl) (by rfl)
              exact Sp.sp_value rfl (Sp.wanted_none rfl) (v := .int .i64 (k1 : Int)) (w' := w1) (by simp [execOp, Act.eval, d56, Sp.gd d56, go_sem]) ⟨hI.1, fun h => hI.2.1 (by simpa using h), fun h => hI.2.2 (by simpa using h)⟩ trivial rfl
          · intro val L w1 hall hI hS
            obtain ⟨hB1, -, hC1⟩ := hI
            have hC2 := hC1 (hall 8 (by decide))
            have h10 : val 10 = .int .i64 (k1 : Int) := hS 10 (by decide)
            simp only [Sp.setAll, List.setIfInBounds_toArray, List.set_cons_zero, List.set_cons_succ, h10]
            clear hC1 hS h10
            have HC2 := Lib.hid hC2
            have HB2 := Lib.hid hB1
            clear hC2 hB1
            go_wp2_with fail
            exact ⟨⟨t + 1, (I + 70), (show I + 70 = 70 * (t + 1) by rw [HI.out]; omega), by go_num, by rw [show kat s (t + 1) = k1 by have := hK1.out; have := HM.out; have := HI.out; have := HNI.out; unfold kat at *; rw [HM.out] at *; omega], by omega, ⟨_, HC2.out, by exact lines_copy HLN.out HM.out (by have := HI.out; have := HNI.out; omega) (by have := HI.out; have := HNI.out; omega) HI.out⟩, HB2.out⟩, by simp [intOf]; omega⟩
    · have hkf : kat s t = full s := by unfold kat full; have := HI.out; rw [show (enl s + 69) / 70 = t by omega, show min (70 * t) (enl s) = enl s by omega]
      have hkm : kat s t ≤ 2 * enl s + (enl s / 70 + 1) - enl s := by
        rw [hkf]
        unfold full mlt
        split <;> omega
      have hcv := str_of (o := enl s) (c := 2 * enl s + (enl s / 70 + 1) - enl s) HC.out (l := (List.range (full s)).map (ln s)) (n := kat s t) (by rw [hkf]; simp) (fun x hx => by rw [HLN.out.out x hx, List.getD_eq_getElem?_getD, List.getElem?_map, List.getElem?_range (by omega)]; rfl)
      have hkm2 : (kat s t : Int) ≤ (2 * enl s + (enl s / 70 + 1) - enl s : Nat) := by omega
      have HKF := Lib.hid hkf
      clear hkf hIt
      go_wp2_with fail
      go_ret
      exact ⟨rfl, HB.out⟩
end Go.Proofs.Ytdkhpngcomagnaa.B6
