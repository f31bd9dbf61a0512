/- Base 64: the walk of the encoder's inner loop. -/
import Derived.Test.YtdkhpngcomagnaaRows
import Derived.WalkKit
import Derived.WalkSpells
import Derived.WalkLawsBesides
import Derived.Laws.CopyOwn
import Derived.Laws.BytesArg
import Derived.RowKit3
import Derived.Lib.Hide
import Derived.Below
import Derived.IntWalk
import Derived.Outline
import Derived.Deep.QuietTactic
import Derived.BigQuiet
import Derived.BigRegion
namespace Go.Proofs.Ytdkhpngcomagnaa.B6
open Go.RowKit
set_option linter.unusedVariables false
set_option linter.unusedSimpArgs false
theorem or64 (i : Nat) (x y : Int) (hx : 0 ≤ x) (hx1 : x < 18446744073709551616) (hm : x % 2 ^ i = 0) (hy : 0 ≤ y) (hy1 : y < 2 ^ i) (hy2 : y < 18446744073709551616) : bits .or .u64 x y = x + y := by
  refine bits_join .u64 64 (by decide) ?_ i x y hx hm hx1 hy hy1 hy2
  intro n h0 h1
  rw [IntKind.wrap_u64]
  omega
theorem and63 (x : Int) (hx : 0 ≤ x) (hx1 : x < 18446744073709551616) : bits .and .u64 x 63 = x % 64 := by
  refine bits_mask .u64 64 (by decide) ?_ 6 (by decide) x hx hx1
  intro n h0 h1
  rw [IntKind.wrap_u64]
  omega
/-- The signs of base 64. -/
def signs : ByteArray := ⟨#[65, 66, 67, 68, 69, 70, 71, 72, 73, 74, 75, 76, 77, 78, 79, 80, 81, 82, 83, 84, 85, 86, 87, 88, 89, 90, 97, 98, 99, 100, 101, 102, 103, 104, 105, 106, 107, 108, 109, 110, 111, 112, 113, 114, 115, 116, 117, 118, 119, 120, 121, 122, 48, 49, 50, 51, 52, 53, 54, 55, 56, 57, 43, 47]⟩
def dg (x : Nat) : Int := (signs.data.toList.getD x 0).toNat
theorem heap_set {w : World} {b : Nat} {cur : List Value} {t : TypeId} {fr : Nat × Nat} (h : w.heap[b]? = some (.cells cur.toArray t fr)) (i : Nat) (v : Value) : (w.setCell ⟨b, i, none⟩ v).heap[b]? = some (.cells (cur.set i v).toArray t fr) := by
  unfold World.setCell
  simp [Array.getElem?_modify, h]
theorem cell_of {w : World} {b : Nat} {cur : List Value} {t : TypeId} (h : w.heap[b]? = some (.cells cur.toArray t (0, 0))) (i : Nat) : w.cell? ⟨b, i, none⟩ = cur[i]? ∧ w.frozen? ⟨b, i, none⟩ = false := by
  unfold World.cell? World.frozen?
  rw [h]
  simp
theorem sextet (N d : Nat) (hN : N < 16777216) : ∃ q : Nat, bits .and .u64 ((N : Int) / (d : Nat)) 63 = (q : Int) ∧ (q : Int) < 64 ∧ Hid (q = N / d % 64) := by
  refine ⟨N / d % 64, ?_, by omega, rfl⟩
  have h : ((N : Int) / (d : Nat)) = ((N / d : Nat) : Int) := by rw [Int.natCast_ediv]
  have h2 : N / d ≤ N := Nat.div_le_self _ _
  generalize N / d = x at *
  rw [h, and63 _ (by omega) (by omega)]
  rfl
theorem sextet0 (N : Nat) (hN : N < 16777216) : ∃ q : Nat, bits .and .u64 (N : Int) 63 = (q : Int) ∧ (q : Int) < 64 ∧ Hid (q = N % 64) := by
  refine ⟨N % 64, ?_, by omega, rfl⟩
  rw [and63 _ (by omega) (by omega)]
  rfl
/-- The number that three bytes are. -/
def tri (s : ByteArray) (j : Nat) : Nat := bt s (3 * j) * 65536 + bt s (3 * j + 1) * 256 + bt s (3 * j + 2) where
  bt (s : ByteArray) (i : Nat) : Nat := if h : i < s.size then s[i].toNat else 0
theorem tri3 (s : ByteArray) (j : Nat) (h0 : 3 * j < s.size) (h2 : 3 * j + 2 < s.size) : (tri s j : Int) = (s[3 * j]'h0).toNat * 65536 + (s[3 * j + 1]'(by omega)).toNat * 256 + (s[3 * j + 2]'h2).toNat := by
  unfold tri tri.bt
  rw [dif_pos h0, dif_pos (show 3 * j + 1 < s.size by omega), dif_pos h2]
  omega
/-- The i-th byte of what is written. -/
def eb (s : ByteArray) (i : Nat) : Int :=
  if i % 4 = 0 then dg (tri s (i / 4) / 262144 % 64) else if i % 4 = 1 then dg (tri s (i / 4) / 4096 % 64)
  else if i % 4 = 2 then (if 3 * (i / 4) + 1 < s.size then dg (tri s (i / 4) / 64 % 64) else 61) else (if 3 * (i / 4) + 2 < s.size then dg (tri s (i / 4) % 64) else 61)
/-- The block when so many bytes are written. -/
structure Done (s : ByteArray) (cur cur' : List Value) (m : Nat) : Prop where
  len : cur'.length = cur.length
  new : ∀ i, i < m → cur'[i]? = some (.int .u8 (eb s i))
  old : ∀ i, m ≤ i → cur'[i]? = cur[i]?
theorem done_by {s : ByteArray} {cur cu cv : List Value} {j : Nat} (h : Done s cur cu (4 * j)) (hl : cv.length = cu.length) (h0 : cv[4 * j]? = some (.int .u8 (eb s (4 * j)))) (h1 : cv[4 * j + 1]? = some (.int .u8 (eb s (4 * j + 1))))
    (h2 : cv[4 * j + 2]? = some (.int .u8 (eb s (4 * j + 2)))) (h3 : cv[4 * j + 3]? = some (.int .u8 (eb s (4 * j + 3)))) (ho : ∀ i, i < 4 * j ∨ 4 * j + 4 ≤ i → cv[i]? = cu[i]?) : Done s cur cv (4 * (j + 1)) := by
  refine ⟨hl.trans h.len, fun i hi => ?_, fun i hi => ?_⟩
  · by_cases e : i < 4 * j
    · rw [ho i (.inl e)]; exact h.new i e
    · have : i = 4 * j ∨ i = 4 * j + 1 ∨ i = 4 * j + 2 ∨ i = 4 * j + 3 := by omega
      rcases this with rfl | rfl | rfl | rfl
      · exact h0
      · exact h1
      · exact h2
      · exact h3
  · rw [ho i (.inr (by omega))]; exact h.old i (by omega)
theorem set_at {l : List Value} {i : Nat} {v : Value} (h : i < l.length) : (l.set i v)[i]? = some v := by simp [h]
theorem set_no {l : List Value} {i k : Nat} {v : Value} (h : i ≠ k) : (l.set i v)[k]? = l[k]? := List.getElem?_set_ne h
theorem done3 {s : ByteArray} {cur cu : List Value} {j : Nat} (h : Done s cur cu (4 * j)) (hl : 4 * j + 4 ≤ cu.length) {a b c d x y : Int} (ha : a = eb s (4 * j)) (hb : b = eb s (4 * j + 1)) (hc : c = eb s (4 * j + 2)) (hd : d = eb s (4 * j + 3)) :
    Done s cur ((((((cu.set (4 * j) (.int .u8 a)).set (4 * j + 1) (.int .u8 b)).set (4 * j + 2) (.int .u8 x)).set (4 * j + 3) (.int .u8 y)).set (4 * j + 2) (.int .u8 c)).set (4 * j + 3) (.int .u8 d)) (4 * (j + 1)) := by
  subst ha hb hc hd
  refine done_by h (by simp) ?_ ?_ ?_ ?_ fun i hi => ?_
  · rw [set_no (by omega), set_no (by omega), set_no (by omega), set_no (by omega), set_no (by omega), set_at (by omega)]
  · rw [set_no (by omega), set_no (by omega), set_no (by omega), set_no (by omega), set_at (by simp; omega)]
  · rw [set_no (by omega), set_at (by simp; omega)]
  · rw [set_at (by simp; omega)]
  · rw [set_no (by omega), set_no (by omega), set_no (by omega), set_no (by omega), set_no (by omega), set_no (by omega)]
theorem done2 {s : ByteArray} {cur cu : List Value} {j : Nat} (h : Done s cur cu (4 * j)) (hl : 4 * j + 4 ≤ cu.length) {a b c d x : Int} (ha : a = eb s (4 * j)) (hb : b = eb s (4 * j + 1)) (hc : c = eb s (4 * j + 2)) (hd : d = eb s (4 * j + 3)) :
    Done s cur (((((cu.set (4 * j) (.int .u8 a)).set (4 * j + 1) (.int .u8 b)).set (4 * j + 2) (.int .u8 x)).set (4 * j + 3) (.int .u8 d)).set (4 * j + 2) (.int .u8 c)) (4 * (j + 1)) := by
  subst ha hb hc hd
  refine done_by h (by simp) ?_ ?_ ?_ ?_ fun i hi => ?_
  · rw [set_no (by omega), set_no (by omega), set_no (by omega), set_no (by omega), set_at (by omega)]
  · rw [set_no (by omega), set_no (by omega), set_no (by omega), set_at (by simp; omega)]
  · rw [set_at (by simp; omega)]
  · rw [set_no (by omega), set_at (by simp; omega)]
  · rw [set_no (by omega), set_no (by omega), set_no (by omega), set_no (by omega), set_no (by omega)]
theorem done1 {s : ByteArray} {cur cu : List Value} {j : Nat} (h : Done s cur cu (4 * j)) (hl : 4 * j + 4 ≤ cu.length) {a b c d : Int} (ha : a = eb s (4 * j)) (hb : b = eb s (4 * j + 1)) (hc : c = eb s (4 * j + 2)) (hd : d = eb s (4 * j + 3)) :
    Done s cur ((((cu.set (4 * j) (.int .u8 a)).set (4 * j + 1) (.int .u8 b)).set (4 * j + 2) (.int .u8 c)).set (4 * j + 3) (.int .u8 d)) (4 * (j + 1)) := by
  subst ha hb hc hd
  refine done_by h (by simp) ?_ ?_ ?_ ?_ fun i hi => ?_
  · rw [set_no (by omega), set_no (by omega), set_no (by omega), set_at (by omega)]
  · rw [set_no (by omega), set_no (by omega), set_at (by simp; omega)]
  · rw [set_no (by omega), set_at (by simp; omega)]
  · rw [set_at (by simp; omega)]
  · rw [set_no (by omega), set_no (by omega), set_no (by omega), set_no (by omega)]
theorem dg_of (q : Nat) (h : q < signs.size) : ((signs[q]'h).toNat : Int) = dg q := by
  unfold dg
  rw [List.getD_eq_getElem?_getD]
  have h2 : q < signs.data.toList.length := h
  rw [List.getElem?_eq_getElem h2]
  rfl
theorem eb0 (s : ByteArray) (j : Nat) : eb s (4 * j) = dg (tri s j / 262144 % 64) := by
  unfold eb
  rw [if_pos (by omega), show 4 * j / 4 = j by omega]
theorem eb1 (s : ByteArray) (j : Nat) : eb s (4 * j + 1) = dg (tri s j / 4096 % 64) := by
  unfold eb
  rw [if_neg (by omega), if_pos (by omega), show (4 * j + 1) / 4 = j by omega]
theorem eb2 (s : ByteArray) (j : Nat) : eb s (4 * j + 2) = if 3 * j + 1 < s.size then dg (tri s j / 64 % 64) else 61 := by
  unfold eb
  rw [if_neg (by omega), if_neg (by omega), if_pos (by omega), show (4 * j + 2) / 4 = j by omega]
theorem eb3 (s : ByteArray) (j : Nat) : eb s (4 * j + 3) = if 3 * j + 2 < s.size then dg (tri s j % 64) else 61 := by
  unfold eb
  rw [if_neg (by omega), if_neg (by omega), if_neg (by omega), show (4 * j + 3) / 4 = j by omega]
theorem drew_heap (w : World) : w.drew.heap = w.heap := rfl
theorem fin3 {s : ByteArray} {cur cu : List Value} {b j B : Nat} {w wr : World} (h : wr.heap[b]? = some (.cells cu.toArray 5 (0, 0))) (hd : Done s cur cu (4 * j)) (hbel : Below B w wr) (hz : wr.heap.size = w.heap.size) (hB : B ≤ b) (hl : 4 * j + 4 ≤ cu.length) {v0 v1 v2 v3 x y : Int} (h0 : v0 = eb s (4 * j)) (h1 : v1 = eb s (4 * j + 1)) (h2 : v2 = eb s (4 * j + 2)) (h3 : v3 = eb s (4 * j + 3)) :
    (∃ cur', ((((((wr.setCell ⟨b, 4 * j, none⟩ (.int .u8 v0)).setCell ⟨b, 4 * j + 1, none⟩ (.int .u8 v1)).setCell ⟨b, 4 * j + 2, none⟩ (.int .u8 x)).setCell ⟨b, 4 * j + 3, none⟩ (.int .u8 y)).setCell ⟨b, 4 * j + 2, none⟩ (.int .u8 v2)).setCell ⟨b, 4 * j + 3, none⟩ (.int .u8 v3)).drew.heap[b]? = some (.cells cur'.toArray 5 (0, 0)) ∧ Done s cur cur' (4 * (j + 1))) ∧ Below B w ((((((wr.setCell ⟨b, 4 * j, none⟩ (.int .u8 v0)).setCell ⟨b, 4 * j + 1, none⟩ (.int .u8 v1)).setCell ⟨b, 4 * j + 2, none⟩ (.int .u8 x)).setCell ⟨b, 4 * j + 3, none⟩ (.int .u8 y)).setCell ⟨b, 4 * j + 2, none⟩ (.int .u8 v2)).setCell ⟨b, 4 * j + 3, none⟩ (.int .u8 v3)).drew ∧ ((((((wr.setCell ⟨b, 4 * j, none⟩ (.int .u8 v0)).setCell ⟨b, 4 * j + 1, none⟩ (.int .u8 v1)).setCell ⟨b, 4 * j + 2, none⟩ (.int .u8 x)).setCell ⟨b, 4 * j + 3, none⟩ (.int .u8 y)).setCell ⟨b, 4 * j + 2, none⟩ (.int .u8 v2)).setCell ⟨b, 4 * j + 3, none⟩ (.int .u8 v3)).drew.heap.size = w.heap.size :=
  ⟨⟨_, by rw [drew_heap]; exact heap_set (heap_set (heap_set (heap_set (heap_set (heap_set (h) _ _) _ _) _ _) _ _) _ _) _ _, done3 hd hl h0 h1 h2 h3⟩, Below.drew ((((((((hbel).setCell hB _).setCell hB _).setCell hB _).setCell hB _).setCell hB _).setCell hB _)), by simpa using hz⟩
theorem fin2 {s : ByteArray} {cur cu : List Value} {b j B : Nat} {w wr : World} (h : wr.heap[b]? = some (.cells cu.toArray 5 (0, 0))) (hd : Done s cur cu (4 * j)) (hbel : Below B w wr) (hz : wr.heap.size = w.heap.size) (hB : B ≤ b) (hl : 4 * j + 4 ≤ cu.length) {v0 v1 v2 v3 x : Int} (h0 : v0 = eb s (4 * j)) (h1 : v1 = eb s (4 * j + 1)) (h2 : v2 = eb s (4 * j + 2)) (h3 : v3 = eb s (4 * j + 3)) :
    (∃ cur', (((((wr.setCell ⟨b, 4 * j, none⟩ (.int .u8 v0)).setCell ⟨b, 4 * j + 1, none⟩ (.int .u8 v1)).setCell ⟨b, 4 * j + 2, none⟩ (.int .u8 x)).setCell ⟨b, 4 * j + 3, none⟩ (.int .u8 v3)).setCell ⟨b, 4 * j + 2, none⟩ (.int .u8 v2)).drew.heap[b]? = some (.cells cur'.toArray 5 (0, 0)) ∧ Done s cur cur' (4 * (j + 1))) ∧ Below B w (((((wr.setCell ⟨b, 4 * j, none⟩ (.int .u8 v0)).setCell ⟨b, 4 * j + 1, none⟩ (.int .u8 v1)).setCell ⟨b, 4 * j + 2, none⟩ (.int .u8 x)).setCell ⟨b, 4 * j + 3, none⟩ (.int .u8 v3)).setCell ⟨b, 4 * j + 2, none⟩ (.int .u8 v2)).drew ∧ (((((wr.setCell ⟨b, 4 * j, none⟩ (.int .u8 v0)).setCell ⟨b, 4 * j + 1, none⟩ (.int .u8 v1)).setCell ⟨b, 4 * j + 2, none⟩ (.int .u8 x)).setCell ⟨b, 4 * j + 3, none⟩ (.int .u8 v3)).setCell ⟨b, 4 * j + 2, none⟩ (.int .u8 v2)).drew.heap.size = w.heap.size :=
  ⟨⟨_, by rw [drew_heap]; exact heap_set (heap_set (heap_set (heap_set (heap_set (h) _ _) _ _) _ _) _ _) _ _, done2 hd hl h0 h1 h2 h3⟩, Below.drew (((((((hbel).setCell hB _).setCell hB _).setCell hB _).setCell hB _).setCell hB _)), by simpa using hz⟩
theorem fin1 {s : ByteArray} {cur cu : List Value} {b j B : Nat} {w wr : World} (h : wr.heap[b]? = some (.cells cu.toArray 5 (0, 0))) (hd : Done s cur cu (4 * j)) (hbel : Below B w wr) (hz : wr.heap.size = w.heap.size) (hB : B ≤ b) (hl : 4 * j + 4 ≤ cu.length) {v0 v1 v2 v3 : Int} (h0 : v0 = eb s (4 * j)) (h1 : v1 = eb s (4 * j + 1)) (h2 : v2 = eb s (4 * j + 2)) (h3 : v3 = eb s (4 * j + 3)) :
    (∃ cur', ((((wr.setCell ⟨b, 4 * j, none⟩ (.int .u8 v0)).setCell ⟨b, 4 * j + 1, none⟩ (.int .u8 v1)).setCell ⟨b, 4 * j + 2, none⟩ (.int .u8 v2)).setCell ⟨b, 4 * j + 3, none⟩ (.int .u8 v3)).drew.heap[b]? = some (.cells cur'.toArray 5 (0, 0)) ∧ Done s cur cur' (4 * (j + 1))) ∧ Below B w ((((wr.setCell ⟨b, 4 * j, none⟩ (.int .u8 v0)).setCell ⟨b, 4 * j + 1, none⟩ (.int .u8 v1)).setCell ⟨b, 4 * j + 2, none⟩ (.int .u8 v2)).setCell ⟨b, 4 * j + 3, none⟩ (.int .u8 v3)).drew ∧ ((((wr.setCell ⟨b, 4 * j, none⟩ (.int .u8 v0)).setCell ⟨b, 4 * j + 1, none⟩ (.int .u8 v1)).setCell ⟨b, 4 * j + 2, none⟩ (.int .u8 v2)).setCell ⟨b, 4 * j + 3, none⟩ (.int .u8 v3)).drew.heap.size = w.heap.size :=
  ⟨⟨_, by rw [drew_heap]; exact heap_set (heap_set (heap_set (heap_set (h) _ _) _ _) _ _) _ _, done1 hd hl h0 h1 h2 h3⟩, Below.drew ((((((hbel).setCell hB _).setCell hB _).setCell hB _).setCell hB _)), by simpa using hz⟩
theorem byteN (x : UInt8) : (x.toNat : Int) < 256 := by have := x.toNat_lt; omega
theorem tri2 (s : ByteArray) (j : Nat) (h1 : 3 * j + 1 < s.size) (h2 : ¬ 3 * j + 2 < s.size) : (tri s j : Int) = (s[3 * j]'(by omega)).toNat * 65536 + (s[3 * j + 1]'h1).toNat * 256 := by
  unfold tri tri.bt
  rw [dif_pos (show 3 * j < s.size by omega), dif_pos h1, dif_neg h2]
  omega
theorem tri1 (s : ByteArray) (j : Nat) (h0 : 3 * j < s.size) (h1 : ¬ 3 * j + 1 < s.size) : (tri s j : Int) = (s[3 * j]'h0).toNat * 65536 := by
  unfold tri tri.bt
  rw [dif_pos h0, dif_neg h1, dif_neg (show ¬ 3 * j + 2 < s.size by omega)]
  omega
set_option maxHeartbeats 4000000 in
set_option maxRecDepth 100000 in
theorem zz_any (s : ByteArray) (b n c : Nat) (w : World) (hs : s.size ≤ 2000) (hn : n = (s.size + 2) / 3 * 4) (cur : List Value) (hb : w.heap[b]? = some (.cells cur.toArray 5 (0, 0))) (hcur : n ≤ cur.length) (B : Nat) (hB : B ≤ b) :
    Calls Try.prog 8 #[.slice (some ⟨b, 0, none⟩) n c, .string s] w fun e w' => e = .returned (.tuple #[]) ∧ (∃ cur', w'.heap[b]? = some (.cells cur'.toArray 5 (0, 0)) ∧ Done s cur cur' n) ∧ Below B w w' ∧ w'.heap.size = w.heap.size := by
  subst hn
  go_enter Try.func8, Try.ntmps8
  go_wp2_with fail
  go_loopw [4, 5, 6] (fun kv i nv wr => ∃ j : Nat, kv = .int .i64 (4 * j : Nat) ∧ i = .int .i64 (3 * j : Nat) ∧ 3 * j ≤ s.size + 2 ∧ (∃ cur', wr.heap[b]? = some (.cells cur'.toArray 5 (0, 0)) ∧ Done s cur cur' (4 * j)) ∧ Below B w wr ∧ wr.heap.size = w.heap.size) (fun _ i _ _ => s.size + 3 - (intOf i).toNat)
  case atStart => exact ⟨0, rfl, rfl, by omega, ⟨cur, hb, ⟨rfl, by omega, fun _ _ => rfl⟩⟩, Below.refl _ _, rfl⟩
  case round =>
    obtain ⟨j, rfl, rfl, hj, ⟨cu, hcu, hdone⟩, hbel, hsz⟩ := hrel
    have HC := Lib.hid hcu
    have HD := Lib.hid hdone
    have HB := Lib.hid hbel
    have HZ := Lib.hid hsz
    have hlen : cu.length = cur.length := hdone.len
    have HL := Lib.hid hlen
    clear hcu hdone hbel hsz hlen
    by_cases h0 : 3 * j < s.size
    · have cell := fun (i : Nat) (hi : i < 4) => (show ∃ v, wr.cell? ⟨b, 4 * j + i, none⟩ = some v ∧ wr.frozen? ⟨b, 4 * j + i, none⟩ = false from by
        obtain ⟨e1, e2⟩ := cell_of HC.out (4 * j + i)
        have := HL.out
        exact ⟨cu[4 * j + i]'(by omega), by rw [e1, List.getElem?_eq_getElem (by omega)], e2⟩)
      obtain ⟨v0, c0, f0⟩ := cell 0 (by omega)
      obtain ⟨v1, c1, f1⟩ := cell 1 (by omega)
      obtain ⟨v2, c2, f2⟩ := cell 2 (by omega)
      obtain ⟨v3, c3, f3⟩ := cell 3 (by omega)
      rw [Nat.add_zero] at c0 f0
      clear cell
      have e0 : ((3 * j : Nat) : Int) < s.size := by omega
      have ek : (4 * j : Nat) + 4 ≤ (s.size + 2) / 3 * 4 := by omega
      have ek2 : ((4 * j : Nat) : Int) + 4 ≤ ((s.size + 2) / 3 * 4 : Nat) := by omega
      have b0 := (s[3 * j]'(by omega)).toNat_lt
      by_cases h2 : 3 * j + 2 < s.size
      · have e1 : ((3 * j : Nat) : Int) + 1 < s.size := by omega
        have e2 : ((3 * j : Nat) : Int) + 2 < s.size := by omega
        have b1 := (s[3 * j + 1]'(by omega)).toNat_lt
        have b2 := (s[3 * j + 2]'(by omega)).toNat_lt
        have hor1 : bits .or .u64 ((s[3 * j]'(by omega)).toNat * 65536) ((s[3 * j + 1]'(by omega)).toNat * 256) = ((s[3 * j]'(by omega)).toNat * 65536 + (s[3 * j + 1]'(by omega)).toNat * 256 : Int) := or64 16 _ _ (by omega) (by omega) (by omega) (by omega) (by omega) (by omega)
        have hor2 : bits .or .u64 ((s[3 * j]'(by omega)).toNat * 65536 + (s[3 * j + 1]'(by omega)).toNat * 256) ((s[3 * j + 2]'(by omega)).toNat) = ((s[3 * j]'(by omega)).toNat * 65536 + (s[3 * j + 1]'(by omega)).toNat * 256 + (s[3 * j + 2]'(by omega)).toNat : Int) := or64 8 _ _ (by omega) (by omega) (by omega) (by omega) (by omega) (by omega)
        go_wp2_with fail
        have hN : ((s[3 * j]'(by omega)).toNat * 65536 + (s[3 * j + 1]'(by omega)).toNat * 256 + (s[3 * j + 2]'(by omega)).toNat : Int) = (tri s j : Int) := by
          exact (tri3 s j h0 h2).symm
        rw [hN]
        have hN1 : tri s j < 16777216 := by omega
        clear hor1 hor2 hN
        generalize hNN : tri s j = N at *
        have HN := Lib.hid hNN
        clear hNN
        obtain ⟨q3, hq3, l3, g3⟩ : ∃ q : Nat, bits .and .u64 ((N : Int) / 262144) 63 = (q : Int) ∧ (q : Int) < 64 ∧ Hid (q = N / 262144 % 64) := sextet N 262144 hN1
        obtain ⟨q2, hq2, l2, g2⟩ : ∃ q : Nat, bits .and .u64 ((N : Int) / 4096) 63 = (q : Int) ∧ (q : Int) < 64 ∧ Hid (q = N / 4096 % 64) := sextet N 4096 hN1
        obtain ⟨q1, hq1, l1, g1⟩ : ∃ q : Nat, bits .and .u64 ((N : Int) / 64) 63 = (q : Int) ∧ (q : Int) < 64 ∧ Hid (q = N / 64 % 64) := sextet N 64 hN1
        obtain ⟨q0, hq0, l0, g0⟩ := sextet0 N hN1
        go_region
        go_wp2_with fail
        have s3 := dg_of q3 (by show q3 < 64; omega)
        have s2 := dg_of q2 (by show q2 < 64; omega)
        have s1 := dg_of q1 (by show q1 < 64; omega)
        have s0 := dg_of q0 (by show q0 < 64; omega)
        unfold signs at s3 s2 s1 s0
        rw [s3, s2, s1, s0]
        have FF := fin3 (x := 61) (y := 61) HC.out HD.out HB.out HZ.out hB (by have := HL.out; omega) (show dg q3 = _ by rw [eb0, HN.out, g3.out]) (show dg q2 = _ by rw [eb1, HN.out, g2.out]) (show dg q1 = _ by rw [eb2, if_pos (by omega), HN.out, g1.out]) (show dg q0 = _ by rw [eb3, if_pos h2, HN.out, g0.out])
        exact ⟨⟨j + 1, by go_num, by go_num, by omega, FF.1, FF.2.1, FF.2.2⟩, by simp [intOf]; omega⟩
      · by_cases h1 : 3 * j + 1 < s.size
        · have e1 : ((3 * j : Nat) : Int) + 1 < s.size := by omega
          have e2 : ¬ ((3 * j : Nat) : Int) + 2 < s.size := by omega
          have b1 := (s[3 * j + 1]'(by omega)).toNat_lt
          have hor1 : bits .or .u64 ((s[3 * j]'(by omega)).toNat * 65536) ((s[3 * j + 1]'(by omega)).toNat * 256) = ((s[3 * j]'(by omega)).toNat * 65536 + (s[3 * j + 1]'(by omega)).toNat * 256 : Int) := or64 16 _ _ (by omega) (by omega) (by omega) (by omega) (by omega) (by omega)
          go_wp2_with fail
          have hN : ((s[3 * j]'(by omega)).toNat * 65536 + (s[3 * j + 1]'(by omega)).toNat * 256 : Int) = (tri s j : Int) := (tri2 s j h1 h2).symm
          rw [hN]
          have hN1 : tri s j < 16777216 := by omega
          clear hor1 hN
          generalize hNN : tri s j = N at *
          have HN := Lib.hid hNN
          clear hNN
          obtain ⟨q3, hq3, l3, g3⟩ : ∃ q : Nat, bits .and .u64 ((N : Int) / 262144) 63 = (q : Int) ∧ (q : Int) < 64 ∧ Hid (q = N / 262144 % 64) := sextet N 262144 hN1
          obtain ⟨q2, hq2, l2, g2⟩ : ∃ q : Nat, bits .and .u64 ((N : Int) / 4096) 63 = (q : Int) ∧ (q : Int) < 64 ∧ Hid (q = N / 4096 % 64) := sextet N 4096 hN1
          obtain ⟨q1, hq1, l1, g1⟩ : ∃ q : Nat, bits .and .u64 ((N : Int) / 64) 63 = (q : Int) ∧ (q : Int) < 64 ∧ Hid (q = N / 64 % 64) := sextet N 64 hN1
          obtain ⟨q0, hq0, l0, g0⟩ := sextet0 N hN1
          go_region
          go_wp2_with fail
          have s3 := dg_of q3 (by show q3 < 64; omega)
          have s2 := dg_of q2 (by show q2 < 64; omega)
          have s1 := dg_of q1 (by show q1 < 64; omega)
          unfold signs at s3 s2 s1
          rw [s3, s2, s1]
          have FF := fin2 (x := 61) HC.out HD.out HB.out HZ.out hB (by have := HL.out; omega) (show dg q3 = _ by rw [eb0, HN.out, g3.out]) (show dg q2 = _ by rw [eb1, HN.out, g2.out]) (show dg q1 = _ by rw [eb2, if_pos h1, HN.out, g1.out]) (show 61 = _ by rw [eb3, if_neg h2])
          exact ⟨⟨j + 1, by go_num, by go_num, by omega, FF.1, FF.2.1, FF.2.2⟩, by simp [intOf]; omega⟩
        · have e1 : ¬ ((3 * j : Nat) : Int) + 1 < s.size := by omega
          have e2 : ¬ ((3 * j : Nat) : Int) + 2 < s.size := by omega
          go_wp2_with fail
          have hN : ((s[3 * j]'(by omega)).toNat * 65536 : Int) = (tri s j : Int) := (tri1 s j h0 h1).symm
          rw [hN]
          have hN1 : tri s j < 16777216 := by omega
          clear hN
          generalize hNN : tri s j = N at *
          have HN := Lib.hid hNN
          clear hNN
          obtain ⟨q3, hq3, l3, g3⟩ : ∃ q : Nat, bits .and .u64 ((N : Int) / 262144) 63 = (q : Int) ∧ (q : Int) < 64 ∧ Hid (q = N / 262144 % 64) := sextet N 262144 hN1
          obtain ⟨q2, hq2, l2, g2⟩ : ∃ q : Nat, bits .and .u64 ((N : Int) / 4096) 63 = (q : Int) ∧ (q : Int) < 64 ∧ Hid (q = N / 4096 % 64) := sextet N 4096 hN1
          obtain ⟨q1, hq1, l1, g1⟩ : ∃ q : Nat, bits .and .u64 ((N : Int) / 64) 63 = (q : Int) ∧ (q : Int) < 64 ∧ Hid (q = N / 64 % 64) := sextet N 64 hN1
          obtain ⟨q0, hq0, l0, g0⟩ := sextet0 N hN1
          go_region
          go_wp2_with fail
          have s3 := dg_of q3 (by show q3 < 64; omega)
          have s2 := dg_of q2 (by show q2 < 64; omega)
          unfold signs at s3 s2
          rw [s3, s2]
          have FF := fin1 HC.out HD.out HB.out HZ.out hB (by have := HL.out; omega) (show dg q3 = _ by rw [eb0, HN.out, g3.out]) (show dg q2 = _ by rw [eb1, HN.out, g2.out]) (show 61 = _ by rw [eb2, if_neg h1]) (show 61 = _ by rw [eb3, if_neg h2])
          exact ⟨⟨j + 1, by go_num, by go_num, by omega, FF.1, FF.2.1, FF.2.2⟩, by simp [intOf]; omega⟩
    · go_wp2_with fail
      go_end0
      have e : 4 * j = (s.size + 2) / 3 * 4 := by omega
      have HDo := HD.out
      rw [e] at HDo
      exact ⟨rfl, ⟨cu, HC.out, HDo⟩, HB.out, HZ.out⟩
end Go.Proofs.Ytdkhpngcomagnaa.B6
