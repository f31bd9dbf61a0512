/- Base 64: the walk of the reference's decoder over what the encoder wrote. -/
import Derived.Test.YtdkhpngcomagnaaB6C
import Derived.Deep.QuietTactic
import Derived.BigQuiet
namespace Go.Proofs.Ytdkhpngcomagnaa.B6
open Go.RowKit
set_option linter.unusedVariables false
set_option linter.unusedSimpArgs false
theorem own_slice {w : World} {base n : Nat} {e : TypeId} {v : Value} {xs : List Value} (h : w.ownsRow base e 1 v n xs) : ∃ A cap, v = .slice A n cap := by
  obtain ⟨_, ⟨rfl, rfl⟩ | ⟨g, cap, cur, rfl, _⟩⟩ := h
  · exact ⟨none, 0, rfl⟩
  · exact ⟨_, cap, rfl⟩
/-- What the encoder wrote. -/
structure Wrote (s u : ByteArray) : Prop where
  size : u.size = full s
  at' : ∀ x (h : x < u.size), ((u[x]'h).toNat : Int) = ln s x
/-- The sextets so far. -/
def lvs (s : ByteArray) (p : Nat) : List Value := (List.range p).map fun i => .int .i64 (lv s i)
theorem lvs_succ (s : ByteArray) (p : Nat) : lvs s (p + 1) = lvs s p ++ [.int .i64 (lv s p)] := by
  unfold lvs
  rw [List.range_succ, List.map_append]
  rfl
theorem drewN_zero (w : World) : w = w.drewN 0 := rfl
theorem drewN_add (w : World) (a b : Nat) : (w.drewN a).drewN b = w.drewN (a + b) := by
  unfold World.drewN
  simp [Nat.add_assoc]
theorem own_drewN {w : World} {base e n : Nat} {v : Value} {xs : List Value} (h : w.ownsRow base e 1 v n xs) (k : Nat) : (w.drewN k).ownsRow base e 1 v n xs := h
theorem below_drewN {B : Nat} {w w' : World} (h : Below B w w') (n : Nat) : Below B w (w'.drewN n) := ⟨h.os, h.tape, h.output, h.size, h.block⟩
/-- What the search has found. -/
def found (q : Int) (k : Nat) : Int := if 0 ≤ q ∧ q < k then q else -1
theorem found_hit {q : Nat} {k : Nat} (h : k = q) : found q (k + 1) = (k : Int) := by unfold found; rw [if_pos (by omega)]; omega
theorem found_miss {q : Nat} {k : Nat} (h : ¬ k = q) : found q (k + 1) = found q k := by
  unfold found
  by_cases h2 : 0 ≤ (q : Int) ∧ (q : Int) < (k : Int)
  · rw [if_pos h2, if_pos (by omega)]
  · rw [if_neg h2, if_neg (by omega)]
theorem found_none {k : Nat} : found (-1) k = -1 := by unfold found; rw [if_neg (by omega)]
theorem found_all {q : Nat} (h : q < 64) : found q 64 = (q : Int) := by unfold found; rw [if_pos (by omega)]
theorem or64i (i : Nat) (x y : Int) (hx : 0 ≤ x) (hx1 : x < 9223372036854775808) (hm : x % 2 ^ i = 0) (hy : 0 ≤ y) (hy1 : y < 2 ^ i) (hy2 : y < 9223372036854775808) : bits .or .i64 x y = x + y := by
  refine bits_join .i64 63 (by decide) ?_ i x y hx hm hx1 hy hy1 hy2
  intro n h0 h1
  rw [IntKind.wrap_i64]
  omega
theorem tri_lt (s : ByteArray) (g : Nat) : tri s g < 16777216 := by
  have b0 := fun j => (show tri.bt s j < 256 by unfold tri.bt; split; (have := UInt8.toNat_lt (s[j]'(by assumption)); omega); omega)
  have := b0 (3 * g)
  have := b0 (3 * g + 1)
  have := b0 (3 * g + 2)
  unfold tri
  omega
theorem lv_sum (s : ByteArray) (g : Nat) : lv s (4 * g) * 262144 + lv s (4 * g + 1) * 4096 + lv s (4 * g + 2) * 64 + lv s (4 * g + 3) = tri s g := by
  have := tri_lt s g
  have e0 : lv s (4 * g) = tri s g / 262144 % 64 := by unfold lv; rw [if_pos (by omega), show 4 * g / 4 = g by omega]
  have e1 : lv s (4 * g + 1) = tri s g / 4096 % 64 := by unfold lv; rw [if_neg (by omega), if_pos (by omega), show (4 * g + 1) / 4 = g by omega]
  have e2 : lv s (4 * g + 2) = tri s g / 64 % 64 := by unfold lv; rw [if_neg (by omega), if_neg (by omega), if_pos (by omega), show (4 * g + 2) / 4 = g by omega]
  have e3 : lv s (4 * g + 3) = tri s g % 64 := by unfold lv; rw [if_neg (by omega), if_neg (by omega), if_neg (by omega), show (4 * g + 3) / 4 = g by omega]
  rw [e0, e1, e2, e3]
  omega
theorem tri_bytes (s : ByteArray) (g : Nat) : (tri s g : Int) / 65536 = (tri.bt s (3 * g) : Int) ∧ (tri s g : Int) / 256 % 256 = (tri.bt s (3 * g + 1) : Int) ∧ (tri s g : Int) % 256 = (tri.bt s (3 * g + 2) : Int) := by
  have b0 := fun j => (show tri.bt s j < 256 by unfold tri.bt; split; (have := UInt8.toNat_lt (s[j]'(by assumption)); omega); omega)
  have := b0 (3 * g)
  have := b0 (3 * g + 1)
  have := b0 (3 * g + 2)
  unfold tri
  omega
/-- The bytes so far. -/
def bts (s : ByteArray) (g : Nat) : List Value := (List.range (3 * g)).map fun i => .int .u8 (tri.bt s i)
theorem bts_succ (s : ByteArray) (g : Nat) : bts s (g + 1) = bts s g ++ [.int .u8 (tri.bt s (3 * g)), .int .u8 (tri.bt s (3 * g + 1)), .int .u8 (tri.bt s (3 * g + 2))] := by
  unfold bts
  rw [show 3 * (g + 1) = 3 * g + 1 + 1 + 1 by omega, List.range_succ, List.range_succ, List.range_succ]
  simp
theorem pos_0 (s : ByteArray) : pos s 0 = 0 := by
  unfold pos
  split
  · rename_i h; unfold full at h; omega
  · simp
theorem cell_lt {w : World} {a : Addr} {v : Value} (h : w.cell? a = some v) : a.block < w.heap.size := by
  unfold World.cell? at h
  by_cases hlt : a.block < w.heap.size
  · exact hlt
  · rw [Array.getElem?_eq_none (by omega)] at h
    cases h
theorem c3 (w : World) (a b c : Value) (t : TypeId) : (w.alloc (.cells #[a, b, c] t)).cell? ⟨w.heap.size, 0, none⟩ = some a ∧ (w.alloc (.cells #[a, b, c] t)).cell? ⟨w.heap.size, 1, none⟩ = some b ∧ (w.alloc (.cells #[a, b, c] t)).cell? ⟨w.heap.size, 2, none⟩ = some c := by
  refine ⟨?_, ?_, ?_⟩ <;> simp
theorem conv_own {w : World} {B : Nat} {s : ByteArray} {A : Option Addr} {g cap m : Nat} (h : w.ownsRow B 5 1 (.slice A (3 * g) cap) (3 * g) (bts s g)) (hm : m ≤ 3 * g) :
    m ≤ cap ∧ (convert 27 9 (.slice A m cap)).run Try.prog w = .ok (.string (strOfNums ((List.range m).map fun i => (tri.bt s i : Int)))) w := by
  have hcells := fun g hg => World.ownsRow.cells h (g := g) hg
  obtain ⟨_, ⟨h1, h0⟩ | ⟨gb, cap', cur, hv, _, _, hle, _⟩⟩ := h
  · simp only [Value.slice.injEq] at h1
    obtain ⟨rfl, _, rfl⟩ := h1
    obtain rfl : m = 0 := by omega
    exact ⟨Nat.le_refl _, run_convert_bytes_nil w 27 5 Try.underlying27 Try.underlying5 0 0 9 Try.underlying9⟩
  simp only [Value.slice.injEq] at hv
  obtain ⟨rfl, _, rfl⟩ := hv
  refine ⟨by omega, run_convert_bytes_arg w 27 5 Try.underlying27 Try.underlying5 gb 0 m cap ((List.range m).map fun i => (tri.bt s i : Int)) (by simp) (fun i hi => ?_) 9 Try.underlying9⟩
  have him : i < m := hi
  have h := hcells gb rfl i (.int .u8 (tri.bt s i)) (by unfold bts; rw [List.getElem?_map, List.getElem?_range (by omega)]; rfl)
  have e : ({ block := gb, off := 0 } : Addr).add i = ⟨gb, 0 + i, none⟩ := by
    unfold Addr.add
    split
    · rename_i h; subst h; rfl
    · rfl
  rw [e] at h
  rw [h, List.getD_eq_getElem?_getD, List.getElem?_map, List.getElem?_range him]
  rfl
theorem str_s (s : ByteArray) : strOfNums ((List.range s.size).map fun i => (tri.bt s i : Int)) = s := by
  unfold strOfNums
  cases s with
  | mk data =>
    congr 1
    refine Array.ext (by simp [ByteArray.size]) fun i h1 h2 => ?_
    simp only [List.map_map, List.getElem_toArray, List.getElem_map, List.getElem_range, Function.comp]
    unfold tri.bt
    rw [dif_pos (show i < (ByteArray.mk data).size from h2)]
    show UInt8.ofNat ((data[i].toNat : Int).toNat) = data[i]
    simp
theorem lv_cells {w : World} {B : Nat} {s : ByteArray} {A : Option Addr} {n cap : Nat} (h : w.ownsRow B 3 1 (.slice A n cap) n (lvs s n)) (hn : 0 < n) : ∃ g, A = some ⟨g, 0, none⟩ ∧ g < w.heap.size ∧ ∀ i, i < n → w.cell? ⟨g, i, none⟩ = some (.int .i64 (lv s i)) := by
  have hcells := fun g hg => World.ownsRow.cells h (g := g) hg
  obtain ⟨_, ⟨_, h0⟩ | ⟨g, cap', cur, hv, _⟩⟩ := h
  · omega
  simp only [Value.slice.injEq] at hv
  obtain ⟨rfl, _, rfl⟩ := hv
  have hc : ∀ i, i < n → w.cell? ⟨g, i, none⟩ = some (.int .i64 (lv s i)) := by
    intro i hi
    have h := hcells g rfl i (.int .i64 (lv s i)) (by unfold lvs; rw [List.getElem?_map, List.getElem?_range hi]; rfl)
    have e : ({ block := g, off := 0 } : Addr).add i = ⟨g, i, none⟩ := by
      unfold Addr.add
      split
      · rename_i h; subst h; rfl
      · simp
    rw [e] at h
    exact h
  exact ⟨g, rfl, cell_lt (hc 0 hn), hc⟩
set_option maxHeartbeats 8000000 in
set_option maxRecDepth 100000 in
theorem unb_any (s u : ByteArray) (w : World) (hs : s.size ≤ 2000) (hu : Wrote s u) :
    Calls Try.prog 5 #[.string u] w fun e w' => e = .returned (.tuple #[.string s, .bool true]) ∧ Below w.heap.size w w' := by
  have hE := enl_le s hs
  have hus : u.size ≤ 3000 := by rw [hu.size]; unfold full mlt; split <;> omega
  have HU := Lib.hid hu
  clear hu
  go_enter Try.func5, Try.ntmps5
  go_wp2_with fail
  go_loopw [4, 5, 14] (fun l en i wr => ∃ x : Nat, x ≤ u.size ∧ i = .int .i64 (x : Nat) ∧ en = .int .i64 (eqs s (pos s x) : Nat) ∧ wr.ownsRow w.heap.size 3 1 l (pos s x) (lvs s (pos s x)) ∧ Below w.heap.size w wr) (fun _ _ i _ => u.size - (intOf i).toNat)
  case atStart => exact ⟨0, by omega, rfl, by rw [pos_0]; unfold eqs; rw [Nat.zero_sub]; rfl, by rw [pos_0]; exact ⟨rfl, .inl ⟨rfl, rfl⟩⟩, Below.refl _ _⟩
  case round =>
    obtain ⟨x, hx, rfl, rfl, hown, hbel⟩ := hrel
    obtain ⟨A, cap, rfl⟩ := own_slice hown
    have HO := Lib.hid hown
    have HB := Lib.hid hbel
    clear hown hbel
    by_cases hlt : x < u.size
    · have hlt' : (x : Int) < (u.size : Int) := by omega
      have hux := HU.out.at' x hlt
      by_cases hf : mlt s = 1 ∧ (x % 71 = 70 ∨ x + 1 = full s)
      · obtain ⟨e1, e2⟩ := pos_feed (by rw [← HU.out.size]; exact hlt) hf
        have hb : ((u[x].toNat : Int) == 10) = true := by rw [hux, e2]; rfl
        have E1 := Lib.hid e1
        clear hux hf e1 e2
        go_wp2_with fail
        go_roundw
        case rel => exact ⟨x + 1, by omega, by go_num, by rw [E1.out], by rw [E1.out]; exact HO.out, HB.out⟩
        case measure => simp [intOf]; omega
      · obtain ⟨e1, e2, e3⟩ := pos_sign (by rw [← HU.out.size]; exact hlt) hf
        have E1 := Lib.hid e1
        have HX := Lib.hid (hux.trans e2)
        clear hux hf e1 e2
        rcases eb_lv e3 with ⟨g1, g2⟩ | ⟨g1, g2, g3, g4⟩
        · have hq := lv_lt s (pos s x)
          have hd := dg_ne ⟨lv s (pos s x), hq⟩
          simp only at hd
          have hb10 : ((u[x].toNat : Int) == 10) = false := by rw [HX.out, g1]; exact hd.2.1
          have hb61 : ((u[x].toNat : Int) == 61) = false := by rw [HX.out, g1]; exact hd.1
          have hen : eqs s (pos s x) = 0 ∧ eqs s (pos s (x + 1)) = 0 := by rw [E1.out]; unfold eqs at *; omega
          have HEN := Lib.hid hen
          have HX1 := Lib.hid (HX.out.trans g1)
          have HQ := Lib.hid hq
          rw [hen.1]
          clear g1 g2 hd hen HX hq
          go_wp2_with fail
          go_loopw [7, 21] (fun at' kv w2 => ∃ k n : Nat, k ≤ 64 ∧ kv = .int .i64 (k : Nat) ∧ at' = .int .i64 (found (lv s (pos s x)) k) ∧ w2 = wr.drewN n) (fun _ kv _ => 64 - (intOf kv).toNat)
          case atStart => exact ⟨0, 0, by omega, rfl, by unfold found; rw [if_neg (by omega)], rfl⟩
          case round =>
            obtain ⟨k, n, hk, rfl, rfl, rfl⟩ := hrel
            by_cases hk64 : k < 64
            · have hkb : ((signs[k]'hk64).toNat : Int) = dg k := dg_of k hk64
              have hin := dg_inj ⟨lv s (pos s x), HQ.out⟩ ⟨k, hk64⟩
              simp only at hin
              rw [← hkb, ← HX1.out] at hin
              unfold signs at hin
              have hk64' : (k : Int) < 64 := by omega
              by_cases hkq : k = lv s (pos s x)
              · rw [decide_eq_true hkq] at hin
                have HKQ := Lib.hid hkq
                clear hkb hkq
                go_wp2_with fail
                go_quiet (fail)
                go_wp2_with fail
                refine ⟨?_, by simp [intOf]; omega⟩
                repeat apply Exists.intro
                refine ⟨⟨k + 1, n + nq, by omega, ?_, by rw [found_hit HKQ.out], rfl⟩, ?_⟩
                rotate_left
                · rfl
                · go_num
              · rw [decide_eq_false hkq] at hin
                have HKQ := Lib.hid hkq
                clear hkb hkq
                go_wp2_with fail
                go_quiet (fail)
                go_wp2_with fail
                refine ⟨?_, by simp [intOf]; omega⟩
                repeat apply Exists.intro
                refine ⟨⟨k + 1, n + nq, by omega, ?_, by rw [found_miss HKQ.out], rfl⟩, ?_⟩
                rotate_left
                · rfl
                · go_num
            · have hk' : k = 64 := by omega
              subst hk'
              rw [found_all HQ.out]
              have hq0 : ¬ ((lv s (pos s x) : Int) < 0) := by omega
              have HO3 : Hid ((wr.drewN n).ownsRow w.heap.size 3 1 (.slice A (pos s x) cap) (pos s x) (lvs s (pos s x))) := own_drewN HO.out n
              have HB3 : Hid (Below w.heap.size w (wr.drewN n)) := below_drewN HB.out n
              generalize wr.drewN n = w3 at *
              go_wp2_with ((at_builtin; refine wpList_pushI rfl (.tmp 42) (.tmp 44) rfl w.heap.size (pos s x) _ _ rfl (HO3.out.alloc _) w3.heap.size 1 (lv s (pos s x) : Nat) rfl (by simp [World.cell?_alloc_new]) (by omega) (by have := HB3.out.size; simp; omega) ?_))
              intro v' w' hown' hg'
              have hb' : Below w.heap.size w w' := (HB3.out.alloc HB3.out.size _).grown hg' (by have := HB3.out.size; simp; omega) (fun k hk => (HO3.out.lt k hk).1)
              have HO' := Lib.hid hown'
              have HB' := Lib.hid hb'
              clear hown' hg' hb'
              go_wp2_with fail
              go_roundw
              case rel => exact ⟨x + 1, by omega, by go_num, by rw [HEN.out.2]; rfl, by rw [E1.out, lvs_succ]; exact HO'.out, HB'.out⟩
              case measure => simp [intOf]; omega
        · have hb10 : ((u[x].toNat : Int) == 10) = false := by rw [HX.out, g1]; rfl
          have hb61 : ((u[x].toNat : Int) == 61) = true := by rw [HX.out, g1]; rfl
          have HX1 := Lib.hid (HX.out.trans g1)
          have G2 := Lib.hid g2
          have G3 := Lib.hid g3
          clear g1 g2 g3 HX
          go_wp2_with fail
          go_loopw [7, 21] (fun at' kv w2 => ∃ k n : Nat, k ≤ 64 ∧ kv = .int .i64 (k : Nat) ∧ at' = .int .i64 (-1) ∧ w2 = wr.drewN n) (fun _ kv _ => 64 - (intOf kv).toNat)
          case atStart => exact ⟨0, 0, by omega, rfl, rfl, rfl⟩
          case round =>
            obtain ⟨k, n, hk, rfl, rfl, rfl⟩ := hrel
            by_cases hk64 : k < 64
            · have hkb : ((signs[k]'hk64).toNat : Int) = dg k := dg_of k hk64
              have hin := (dg_ne ⟨k, hk64⟩).1
              simp only at hin
              rw [← hkb, ← HX1.out] at hin
              unfold signs at hin
              have hk64' : (k : Int) < 64 := by omega
              clear hkb
              go_wp2_with fail
              go_quiet (fail)
              go_wp2_with fail
              exact ⟨⟨k + 1, n + nq, by omega, by go_num, rfl, rfl⟩, by simp [intOf]; omega⟩
            · have hk' : k = 64 := by omega
              subst hk'
              have HO3 : Hid ((wr.drewN n).ownsRow w.heap.size 3 1 (.slice A (pos s x) cap) (pos s x) (lvs s (pos s x))) := own_drewN HO.out n
              have HB3 : Hid (Below w.heap.size w (wr.drewN n)) := below_drewN HB.out n
              generalize wr.drewN n = w3 at *
              go_wp2_with ((at_builtin; refine wpList_pushI rfl (.tmp 42) (.tmp 44) rfl w.heap.size (pos s x) _ _ rfl (HO3.out.alloc _) w3.heap.size 1 (0) rfl (by simp [World.cell?_alloc_new]) (by omega) (by have := HB3.out.size; simp; omega) ?_))
              intro v' w' hown' hg'
              have hb' : Below w.heap.size w w' := (HB3.out.alloc HB3.out.size _).grown hg' (by have := HB3.out.size; simp; omega) (fun k hk => (HO3.out.lt k hk).1)
              have HO' := Lib.hid hown'
              have HB' := Lib.hid hb'
              clear hown' hg' hb'
              go_wp2_with fail
              go_roundw
              case rel => exact ⟨x + 1, by omega, by go_num, by rw [E1.out, G3.out]; first | done | rfl | go_num, by rw [E1.out, lvs_succ, G2.out]; exact HO'.out, HB'.out⟩
              case measure => simp [intOf]; omega
    · have hxe : pos s x = enl s := by unfold pos; rw [if_pos (by have := HU.out.size; omega)]
      rw [hxe] at HO ⊢
      have h4 : ((enl s : Int) % 4 != 0) = false := by simp; unfold enl; omega
      have hee : eqs s (enl s) = 3 * (enl s / 4) - s.size ∧ eqs s (enl s) ≤ 2 ∧ s.size ≤ 3 * (enl s / 4) ∧ eqs s (enl s) + s.size = 3 * (enl s / 4) := by unfold eqs enl; omega
      obtain ⟨h5, h6, h7, h8⟩ := hee
      have H5 := Lib.hid h5
      have H8 := Lib.hid h8
      have HXE := Lib.hid hxe
      clear h5 h8 hxe
      go_wp2_with fail
      obtain ⟨wo, rfl⟩ : ∃ wo : World, wo = wr := ⟨_, rfl⟩
      go_loopw [9, 10, 11] (fun o i n w2 => ∃ g I : Nat, Hid (I = 4 * g) ∧ I ≤ enl s ∧ i = .int .i64 (I : Nat) ∧ w2.ownsRow wo.heap.size 5 1 o (3 * g) (bts s g) ∧ Below wo.heap.size wo w2) (fun _ i _ _ => enl s - (intOf i).toNat)
      case atStart => exact ⟨0, 0, rfl, by omega, rfl, ⟨rfl, .inl ⟨rfl, rfl⟩⟩, Below.refl _ _⟩
      case round =>
        obtain ⟨g, I, HI, hI, rfl, hown, hbel⟩ := hrel
        obtain ⟨A2, cap2, rfl⟩ := own_slice hown
        have HO2 := Lib.hid hown
        have HB2 := Lib.hid hbel
        clear hown hbel
        by_cases hlt2 : I < enl s
        · have hlt2' : (I : Int) + 3 < (enl s : Int) := by have := HI.out; unfold enl at *; omega
          obtain ⟨gl, rfl, hgl, hc⟩ := lv_cells HO.out (by omega)
          have cc : ∀ i, i < enl s → wr.cell? ⟨gl, i, none⟩ = some (.int .i64 (lv s i)) := fun i hi => by rw [HB2.out.cell (p := ⟨gl, i, none⟩) hgl]; exact hc i hi
          have c0 := cc I (by omega)
          have c1 := cc (I + 1) (by omega)
          have c2 := cc (I + 2) (by omega)
          have c3 := cc (I + 3) (by omega)
          have l0 := lv_lt s I
          have l1 := lv_lt s (I + 1)
          have l2 := lv_lt s (I + 2)
          have l3 := lv_lt s (I + 3)
          have o1 : bits .or .i64 ((lv s I : Int) * 262144) ((lv s (I + 1) : Int) * 4096) = (lv s I : Int) * 262144 + (lv s (I + 1) : Int) * 4096 := or64i 18 _ _ (by omega) (by omega) (by omega) (by omega) (by omega) (by omega)
          have o2 : bits .or .i64 ((lv s I : Int) * 262144 + (lv s (I + 1) : Int) * 4096) ((lv s (I + 2) : Int) * 64) = (lv s I : Int) * 262144 + (lv s (I + 1) : Int) * 4096 + (lv s (I + 2) : Int) * 64 := or64i 12 _ _ (by omega) (by omega) (by omega) (by omega) (by omega) (by omega)
          have o3 : bits .or .i64 ((lv s I : Int) * 262144 + (lv s (I + 1) : Int) * 4096 + (lv s (I + 2) : Int) * 64) (lv s (I + 3) : Int) = (lv s I : Int) * 262144 + (lv s (I + 1) : Int) * 4096 + (lv s (I + 2) : Int) * 64 + (lv s (I + 3) : Int) := or64i 6 _ _ (by omega) (by omega) (by omega) (by omega) (by omega) (by omega)
          clear hc cc
          go_wp2_with fail
          go_quiet (fail)
          have hs3 : (lv s I : Int) * 262144 + (lv s (I + 1) : Int) * 4096 + (lv s (I + 2) : Int) * 64 + (lv s (I + 3) : Int) = (tri s g : Int) := by
            rw [HI.out]
            have := lv_sum s g
            omega
          rw [hs3]
          have hN := tri_lt s g
          have hg3 : 3 * g + 3 ≤ 1000000 := by have := HI.out; omega
          clear o1 o2 o3 l0 l1 l2 l3 hs3 c0 c1 c2 c3
          have HO3 : Hid ((wr.drewN nq).ownsRow wo.heap.size 5 1 (.slice A2 (3 * g) cap2) (3 * g) (bts s g)) := own_drewN HO2.out nq
          have HB3 : Hid (Below wo.heap.size wo (wr.drewN nq)) := below_drewN HB2.out nq
          generalize wr.drewN nq = w3 at *
          go_wp2_with ((at_builtin; refine wpList_push3 rfl (.tmp 86) (.tmp 95) rfl wo.heap.size (3 * g) _ _ rfl (HO3.out.alloc _) w3.heap.size 3 ((tri s g : Int) / 65536) ((tri s g : Int) / 256 % 256) ((tri s g : Int) % 256) rfl (c3 _ _ _ _ _).1 (c3 _ _ _ _ _).2.1 (c3 _ _ _ _ _).2.2 (by omega) (by have := HB3.out.size; simp; omega) ?_))
          intro v' w' hown' hg'
          have hb' : Below wo.heap.size wo w' := (HB3.out.alloc HB3.out.size _).grown hg' (by have := HB3.out.size; simp; omega) (fun k hk => (HO3.out.lt k hk).1)
          rw [(tri_bytes s g).1, (tri_bytes s g).2.1, (tri_bytes s g).2.2] at hown'
          have HO' := Lib.hid hown'
          have HB' := Lib.hid hb'
          clear hown' hg' hb'
          go_wp2_with fail
          exact ⟨⟨g + 1, I + 4, (show I + 4 = 4 * (g + 1) by rw [HI.out]; omega), by have := HI.out; unfold enl at *; omega, by go_num, by rw [bts_succ]; exact HO'.out, HB'.out⟩, by simp [intOf]; omega⟩
        · have hg3 : 3 * g = 3 * (enl s / 4) := by have := HI.out; unfold enl at *; omega
          have hlen3 : 3 * g = eqs s (enl s) + s.size := by have := H8.out; omega
          have HL3 := Lib.hid hlen3
          have hsub : 3 * (g : Int) - (eqs s (enl s) : Int) = (s.size : Int) := by omega
          obtain ⟨hcap, hcv⟩ := conv_own (m := s.size) HO2.out (by omega)
          rw [str_s] at hcv
          have hcap' : (s.size : Int) ≤ (cap2 : Int) := by omega
          clear hlen3 hg3
          go_wp2_with fail
          go_ret2
          exact ⟨rfl, HB.out.trans (HB2.out.mono HB.out.size)⟩
end Go.Proofs.Ytdkhpngcomagnaa.B6
