/- Integers written in digits (strconv.FormatInt): base 10 by the library's contract; bases 16 and 8 walked. Printed by genRiE.py. -/
import Derived.Test.YtpdfamigmkeflaaDoorRiB
import Derived.Ground.NamesProg
import Derived.WalkMore
import Derived.Shelf.Lay
import Derived.Shelf.LaysM
import Derived.Shelf.Strconv.Itoa4
import Derived.Deep.MidRow
import Derived.Handy
import Derived.BigFrame
import Derived.Deep.QuietTactic
import Derived.Deep.Cut
import Derived.BigQuiet
import Derived.Laws.BitsLemmas
import Derived.Laws.Bits64
namespace Go.Proofs.YtpdfamigmkeflaaDoor
open Go.RowKit Go.Shelf Go.Lib
shelf_lay LaysM.n173 Nm 173 at Tryd as Tryd.laysFmt
end Go.Proofs.YtpdfamigmkeflaaDoor
namespace Go.Proofs.YtpdfamigmkeflaaDoor.Ri
open Go.RowKit Go.Shelf
set_option linter.unusedVariables false
set_option linter.unusedSimpArgs false
theorem fmt_10 (n : Int) (h0 : -9223372036854775808 ≤ n) (h1 : n ≤ 9223372036854775807) (w : World) (ht : Lib.TabIs Tryd.prog w "internal/strconv.uint64pow10" .u64 Lib.pow10Tab) :
    Calls Tryd.prog 4 #[.int .i64 n, .int .i64 10] w fun e w' => e = .returned (.string (S (Lib.itoa n))) ∧ Below w.heap.size w w' :=
  (Any.strconv_FormatInt_10 Tryd.laysFmt n h0 h1 w ht).mono fun e w' ⟨h, k, os, hw⟩ => ⟨h, by
    subst hw
    refine ⟨rfl, rfl, rfl, ?_, fun j hj => ?_⟩
    · show w.heap.size ≤ (w.heap ++ os).size
      simp
    · show (w.heap ++ os)[j]? = w.heap[j]?
      rw [Array.getElem?_append_left hj]⟩
theorem there_setCell {w : World} {b o n : Nat} (h : w.there b o n) (a : Addr) (v : Value) : (w.setCell a v).there b o n := by
  intro j hj
  obtain ⟨h1, h2⟩ := h j hj
  refine ⟨?_, ?_⟩
  · obtain ⟨x, hx⟩ := Option.isSome_iff_exists.1 h1
    obtain ⟨v', hv⟩ := cell?_setCell_some (w := w) (p := a) (x := v) (q := ⟨b, o + j, none⟩) (v := x) hx
    rw [hv]; rfl
  · simpa using h2
theorem at_there {w : World} {p n : Nat} (h : w.there p 0 n) (k : Nat) (hk : k < n) : (∃ v, w.cell? ⟨p, k, none⟩ = some v) ∧ w.frozen? ⟨p, k, none⟩ = false := by
  obtain ⟨h1, h2⟩ := h k hk
  rw [Nat.zero_add] at h1 h2
  exact ⟨Option.isSome_iff_exists.1 h1, h2⟩
theorem dgl (d : Nat) (h : d < 16) (h2 : d < ({data := #[48, 49, 50, 51, 52, 53, 54, 55, 56, 57, 97, 98, 99, 100, 101, 102, 103, 104, 105, 106, 107, 108, 109, 110, 111, 112, 113, 114, 115, 116, 117, 118, 119, 120, 121, 122]} : ByteArray).size) : (({data := #[48, 49, 50, 51, 52, 53, 54, 55, 56, 57, 97, 98, 99, 100, 101, 102, 103, 104, 105, 106, 107, 108, 109, 110, 111, 112, 113, 114, 115, 116, 117, 118, 119, 120, 121, 122]} : ByteArray)[d]'h2).toNat = (dgu d).toNat := by
  have : d = 0 ∨ d = 1 ∨ d = 2 ∨ d = 3 ∨ d = 4 ∨ d = 5 ∨ d = 6 ∨ d = 7 ∨ d = 8 ∨ d = 9 ∨ d = 10 ∨ d = 11 ∨ d = 12 ∨ d = 13 ∨ d = 14 ∨ d = 15 := by omega
  rcases this with rfl | rfl | rfl | rfl | rfl | rfl | rfl | rfl | rfl | rfl | rfl | rfl | rfl | rfl | rfl | rfl <;> rfl
theorem cells_cons {w : World} {ab p : Nat} {L : List UInt8} (c : UInt8) (x : Int) (hx : x = (c.toNat : Int)) (hex : ∃ v, w.cell? ⟨ab, p, none⟩ = some v) (h : ∀ j, (h : j < L.length) → w.cell? ⟨ab, p + 1 + j, none⟩ = some (.int .u8 (L[j].toNat : Int))) :
    ∀ j, (h : j < (c :: L).length) → (w.setCell ⟨ab, p, none⟩ (.int .u8 x)).cell? ⟨ab, p + j, none⟩ = some (.int .u8 ((c :: L)[j].toNat : Int)) := by
  intro j hj
  cases j with
  | zero =>
    obtain ⟨v, hv⟩ := hex
    subst hx
    first | (simp [hv]; done) | go_cell
  | succ j =>
    rw [World.cell?_setCell_other _ _ _ _ (by intro e; simp only [Addr.mk.injEq] at e; omega)]
    have := h j (by simpa using hj)
    rw [show p + (j + 1) = p + 1 + j by omega]
    exact this
theorem len46 : Tryd.prog.arrayLen 46 = 65 := by kernel_rfl
theorem elem46 : Tryd.prog.elem 46 = 5 := by kernel_rfl
theorem under46 : Tryd.prog.underlying 46 = some (.array (Tryd.prog.arrayLen 46) (Tryd.prog.elem 46)) := by kernel_rfl
theorem slice46 (ab p : Nat) (hp : p < 65) (W : World) : (Instr.sliceAt 46 (.pointer (some ⟨ab, 0, none⟩)) (some (.int .i64 (p : Int))) none none).run Tryd.prog W = .ok (.slice (some ⟨ab, p, none⟩) (65 - p) (65 - p)) W := by
  rw [run_sliceAt_array_l W 46 ⟨ab, 0, none⟩ under46 .i64 (p : Int) (by omega) (by rw [len46]; omega), len46, elem46]
  have hs : (sizeOf 5).run Tryd.prog W = .ok 1 W := by first | (simp [go_sem]; done) | rfl
  rw [hs]
  simp only [Result.andThen, slicedAt, Int.toNat_natCast]
  rw [if_neg (by omega)]
  unfold Addr.add
  by_cases h0 : p = 0
  · subst h0; simp
  · simp [h0]
theorem wraps63 (n : Int) (h₀ : 0 ≤ n) (h₁ : n < 2 ^ 63) : IntKind.u64.wrap n = n := by rw [IntKind.wrap_u64]; omega
theorem and_16 (u : Nat) (hu : u ≤ 9223372036854775807) : Go.bits .and .u64 (u : Int) 15 = ((u % 16 : Nat) : Int) := by
  have h := bits_mask .u64 63 (by decide) wraps63 4 (by decide) (u : Int) (by omega) (by omega)
  have e : ((2 : Int) ^ 4 - 1) = 15 := by decide
  have e2 : ((2 : Int) ^ 4) = 16 := by decide
  rw [e, e2] at h
  rw [h]
  omega
theorem and_8 (u : Nat) (hu : u ≤ 9223372036854775807) : Go.bits .and .u64 (u : Int) 7 = ((u % 8 : Nat) : Int) := by
  have h := bits_mask .u64 63 (by decide) wraps63 3 (by decide) (u : Int) (by omega) (by omega)
  have e : ((2 : Int) ^ 3 - 1) = 7 := by decide
  have e2 : ((2 : Int) ^ 3) = 8 := by decide
  rw [e, e2] at h
  rw [h]
  omega
theorem tz_16 (w : World) (hc : w.cell? ⟨2, 15, none⟩ = some (.int .u8 4)) : Calls Tryd.prog 35 #[.int .u64 16] w fun e w' => e = .returned (.int .i64 4) ∧ w' = w := by
  have hk : IntKind.u64.wrap (bits BinOp.and IntKind.u64 16 (IntKind.u64.wrap (-16)) * 285870213051353865) / 288230376151711744 = 15 := by kernel_rfl
  go_enter Tryd.func35, Tryd.ntmps35
  go_wp2_with fail
  go_ret
  exact ⟨rfl, rfl⟩
theorem pow_16 (w : World) : Calls Tryd.prog 20 #[.int .i64 16] w fun e w' => e = .returned (.bool true) ∧ w' = w := by
  have hk : bits BinOp.and IntKind.i64 16 15 = 0 := by kernel_rfl
  go_enter Tryd.func20, Tryd.ntmps20
  go_wp2_with fail
  go_ret
  exact ⟨rfl, rfl⟩
set_option maxHeartbeats 4000000 in
set_option maxRecDepth 100000 in
theorem fb_16 (u0 : Nat) (hu : u0 ≤ 9223372036854775807) (w : World) (hc : w.cell? ⟨2, 15, none⟩ = some (.int .u8 4)) (hg : 2 < w.heap.size) :
    Calls Tryd.prog 14 #[.slice none 0 0, .int .u64 u0, .int .i64 16, .bool false, .bool false] w fun e w' => e = .returned (.tuple #[.slice none 0 0, .string (S (dig 16 16 u0))]) ∧ Below w.heap.size w w' := by
  obtain ⟨ab, HAB⟩ : ∃ ab, Hid (w.heap.size = ab) := ⟨_, rfl⟩
  obtain ⟨wa, HWA⟩ : ∃ wa : World, Hid (w.alloc (Obj.cells Tryd.zeroCells46 46) = wa) := ⟨_, rfl⟩
  have hbl : Below ab w wa := by rw [← HAB.out, ← HWA.out]; exact (Below.refl _ _).alloc (Nat.le_refl _) _
  have hth : wa.there ab 0 65 := by
    have hz : Tryd.zeroCells46.size = 65 := by kernel_rfl
    have hh : wa.heap[ab]? = some (.cells Tryd.zeroCells46 46 (0, 0)) := by
      rw [← HAB.out, ← HWA.out]
      show (w.heap.push _)[w.heap.size]? = _
      simp
    intro j hj
    refine ⟨?_, ?_⟩
    · unfold World.cell?
      rw [hh]
      simp [hz, hj]
    · unfold World.frozen?
      rw [hh]
      simp
  have hca : wa.cell? ⟨2, 15, none⟩ = some (.int .u8 4) := (hbl.cell (p := ⟨2, 15, none⟩) (by rw [← HAB.out]; exact hg)).trans hc
  have hpw := pow_16 wa
  have htz := tz_16 wa hca
  have htz2 : Calls Tryd.prog 21 #[.int .u64 16] wa fun e w' => e = .returned (.int .i64 4) ∧ w' = wa := by
    have HZ := Lib.hid htz
    clear htz
    go_enter Tryd.func21, Tryd.ntmps21
    go_wp2_with fail
    refine HZ.out.mono ?_
    rintro e w1 ⟨rfl, rfl⟩
    go_wp2_with fail
    go_ret
    exact ⟨rfl, rfl⟩
  have HPW := Lib.hid hpw
  have HTZ := Lib.hid htz2
  have HBL := Lib.hid hbl
  have HTH := Lib.hid hth
  clear hpw htz htz2 hbl hth hca hc
  go_enter Tryd.func14, Tryd.ntmps14
  go_wp2_with fail
  rw [HWA.out, HAB.out]
  refine HPW.out.mono ?_
  rintro e w1 ⟨rfl, rfl⟩
  go_wp2_with fail
  refine HTZ.out.mono ?_
  rintro e w2 ⟨rfl, rfl⟩
  go_wp2_with fail
  go_loopg [1, 13] u0 (fun g s1 s13 wr => ∃ (u k p : Nat) (L : List UInt8), g = u ∧ s1 = .int .u64 (u : Nat) ∧ s13 = .int .i64 ((p : Int) + 1) ∧ k + p = 64 ∧ u ≤ u0 ∧ k < 16 ∧ u < 16 ^ (16 - k) ∧ dig 16 16 u0 = dig 16 (16 - k) u ++ L ∧ L.length = k ∧ (∀ j, (h : j < L.length) → wr.cell? ⟨ab, p + 1 + j, none⟩ = some (.int .u8 (L[j].toNat : Int))) ∧ wr.there ab 0 65 ∧ Below ab w wr)
  case atStart => exact ⟨u0, 0, 64, [], rfl, rfl, rfl, rfl, Nat.le_refl _, by decide, by show u0 < 16 ^ 16; omega, by simp, rfl, fun j h => by simp at h, HTH.out, HBL.out⟩
  obtain ⟨u, k, p, L, hgk, rfl, rfl, hkp, huu, hkF, hub, hdig, hL, hcl, hthr, hbw⟩ := hrel
  have HGK := Lib.hid hgk
  have HUB := Lib.hid hub
  have HDIG := Lib.hid hdig
  have HCL := Lib.hid hcl
  have HTHR := Lib.hid hthr
  have HBW := Lib.hid hbw
  obtain ⟨⟨cv, hcv⟩, hfv⟩ := at_there hthr p (by omega)
  clear hgk hub hdig hcl hthr hbw
  have j0 : (0 : Int) ≤ (p : Int) := by omega
  have j1 : (p : Int) < 65 := by omega
  by_cases hlt : u < 16
  · have j2 : (0 : Int) ≤ (u : Int) := by omega
    have j3 : (u : Int) < 36 := by omega
    have j4 : ¬ ((16 : Int) ≤ (u : Int)) := by omega
    go_upto_region 30 with fail
    rw [dgl u (by omega)]
    have hcs := cells_cons (dgu u) _ rfl ⟨_, hcv⟩ HCL.out
    obtain ⟨w5, HW5⟩ : ∃ w5 : World, Hid (wr.setCell ⟨ab, p, none⟩ (.int .u8 ((dgu u).toNat : Int)) = w5) := ⟨_, rfl⟩
    have hbw5 : Below ab w w5 := by rw [← HW5.out]; exact HBW.out.setCell (Nat.le_refl _) _
    rw [HW5.out] at hcs ⊢
    have hdig2 : dig 16 16 u0 = dgu u :: L := by
      rw [HDIG.out]
      obtain ⟨f, hf⟩ : ∃ f, 16 - k = f + 1 := ⟨16 - k - 1, by omega⟩
      rw [hf]
      show (if u < 16 then _ else _) ++ L = _
      rw [if_pos hlt]
      rfl
    have hconv : ∀ c, (convert 38 9 (.slice (some ⟨ab, p, none⟩) (65 - p) c)).run Tryd.prog w5 = .ok (.string (S (dgu u :: L))) w5 := fun c => by
      rw [show 65 - p = (dgu u :: L).length by simp [hL]; omega]
      exact run_convert_bytes_back w5 38 9 5 ⟨ab, p, none⟩ c (dgu u :: L) Tryd.underlying38 Tryd.underlying5 Tryd.underlying9 (fun j hj => by
        have e : (⟨ab, p, none⟩ : Addr).add j = ⟨ab, p + j, none⟩ := by
          unfold Addr.add
          split
          · rename_i h; subst h; rfl
          · simp
        rw [e]
        exact hcs j hj)
    have hsl := fun W => slice46 ab p (by omega) W
    have HBW5 := Lib.hid hbw5
    have HD2 := Lib.hid hdig2
    clear hcs hbw5 hdig2 hcv hfv
    go_wp2_with fail
    go_ret2
    refine ⟨?_, by rw [HAB.out]; exact HBW5.out⟩
    rw [HD2.out]
    rfl
  · have hand := and_16 u (by omega)
    obtain ⟨d, HD⟩ : ∃ d : Nat, Hid (u % 16 = d) := ⟨_, rfl⟩
    rw [HD.out] at hand
    have hd : d < 16 := by rw [← HD.out]; omega
    have j2 : (0 : Int) ≤ (d : Int) := by omega
    have j3 : (d : Int) < 36 := by omega
    have j4 : (16 : Int) ≤ (u : Int) := by omega
    go_wp2_with fail
    go_roundg (u / 16)
    case measure => have := HGK.out; omega
    case rel =>
      have hp1 : 1 ≤ p := by omega
      have hub := HUB.out
      obtain ⟨f, hf⟩ : ∃ f, 16 - k = f + 1 := ⟨16 - k - 1, by omega⟩
      have hf2 : 16 - (k + 1) = f := by omega
      rw [hf, Nat.pow_succ] at hub
      have hf1 : 1 ≤ f := by
        cases f with
        | zero => rw [Nat.pow_zero] at hub; omega
        | succ f => omega
      refine ⟨u / 16, k + 1, p - 1, dgu d :: L, rfl, congrArg (Value.int .u64) (Int.natCast_ediv _ _).symm, congrArg (Value.int .i64) (by omega), by omega, by omega, by omega, ?_, ?_, by simp [hL], ?_, there_setCell HTHR.out _ _, HBW.out.setCell (Nat.le_refl _) _⟩
      · rw [hf2]
        exact Nat.div_lt_of_lt_mul (by rw [Nat.mul_comm]; exact hub)
      · rw [HDIG.out, hf, hf2]
        show (if u < 16 then _ else _) ++ L = _
        rw [if_neg hlt, HD.out, List.append_assoc]
        rfl
      · intro j hj
        rw [show p - 1 + 1 + j = p + j by omega]
        exact cells_cons (dgu d) _ (congrArg Nat.cast (dgl d (by omega) _)) ⟨_, hcv⟩ HCL.out j hj
theorem tz_8 (w : World) (hc : w.cell? ⟨2, 7, none⟩ = some (.int .u8 3)) : Calls Tryd.prog 35 #[.int .u64 8] w fun e w' => e = .returned (.int .i64 3) ∧ w' = w := by
  have hk : IntKind.u64.wrap (bits BinOp.and IntKind.u64 8 (IntKind.u64.wrap (-8)) * 285870213051353865) / 288230376151711744 = 7 := by kernel_rfl
  go_enter Tryd.func35, Tryd.ntmps35
  go_wp2_with fail
  go_ret
  exact ⟨rfl, rfl⟩
theorem pow_8 (w : World) : Calls Tryd.prog 20 #[.int .i64 8] w fun e w' => e = .returned (.bool true) ∧ w' = w := by
  have hk : bits BinOp.and IntKind.i64 8 7 = 0 := by kernel_rfl
  go_enter Tryd.func20, Tryd.ntmps20
  go_wp2_with fail
  go_ret
  exact ⟨rfl, rfl⟩
set_option maxHeartbeats 4000000 in
set_option maxRecDepth 100000 in
theorem fb_8 (u0 : Nat) (hu : u0 ≤ 9223372036854775807) (w : World) (hc : w.cell? ⟨2, 7, none⟩ = some (.int .u8 3)) (hg : 2 < w.heap.size) :
    Calls Tryd.prog 14 #[.slice none 0 0, .int .u64 u0, .int .i64 8, .bool false, .bool false] w fun e w' => e = .returned (.tuple #[.slice none 0 0, .string (S (dig 8 22 u0))]) ∧ Below w.heap.size w w' := by
  obtain ⟨ab, HAB⟩ : ∃ ab, Hid (w.heap.size = ab) := ⟨_, rfl⟩
  obtain ⟨wa, HWA⟩ : ∃ wa : World, Hid (w.alloc (Obj.cells Tryd.zeroCells46 46) = wa) := ⟨_, rfl⟩
  have hbl : Below ab w wa := by rw [← HAB.out, ← HWA.out]; exact (Below.refl _ _).alloc (Nat.le_refl _) _
  have hth : wa.there ab 0 65 := by
    have hz : Tryd.zeroCells46.size = 65 := by kernel_rfl
    have hh : wa.heap[ab]? = some (.cells Tryd.zeroCells46 46 (0, 0)) := by
      rw [← HAB.out, ← HWA.out]
      show (w.heap.push _)[w.heap.size]? = _
      simp
    intro j hj
    refine ⟨?_, ?_⟩
    · unfold World.cell?
      rw [hh]
      simp [hz, hj]
    · unfold World.frozen?
      rw [hh]
      simp
  have hca : wa.cell? ⟨2, 7, none⟩ = some (.int .u8 3) := (hbl.cell (p := ⟨2, 7, none⟩) (by rw [← HAB.out]; exact hg)).trans hc
  have hpw := pow_8 wa
  have htz := tz_8 wa hca
  have htz2 : Calls Tryd.prog 21 #[.int .u64 8] wa fun e w' => e = .returned (.int .i64 3) ∧ w' = wa := by
    have HZ := Lib.hid htz
    clear htz
    go_enter Tryd.func21, Tryd.ntmps21
    go_wp2_with fail
    refine HZ.out.mono ?_
    rintro e w1 ⟨rfl, rfl⟩
    go_wp2_with fail
    go_ret
    exact ⟨rfl, rfl⟩
  have HPW := Lib.hid hpw
  have HTZ := Lib.hid htz2
  have HBL := Lib.hid hbl
  have HTH := Lib.hid hth
  clear hpw htz htz2 hbl hth hca hc
  go_enter Tryd.func14, Tryd.ntmps14
  go_wp2_with fail
  rw [HWA.out, HAB.out]
  refine HPW.out.mono ?_
  rintro e w1 ⟨rfl, rfl⟩
  go_wp2_with fail
  refine HTZ.out.mono ?_
  rintro e w2 ⟨rfl, rfl⟩
  go_wp2_with fail
  go_loopg [1, 13] u0 (fun g s1 s13 wr => ∃ (u k p : Nat) (L : List UInt8), g = u ∧ s1 = .int .u64 (u : Nat) ∧ s13 = .int .i64 ((p : Int) + 1) ∧ k + p = 64 ∧ u ≤ u0 ∧ k < 22 ∧ u < 8 ^ (22 - k) ∧ dig 8 22 u0 = dig 8 (22 - k) u ++ L ∧ L.length = k ∧ (∀ j, (h : j < L.length) → wr.cell? ⟨ab, p + 1 + j, none⟩ = some (.int .u8 (L[j].toNat : Int))) ∧ wr.there ab 0 65 ∧ Below ab w wr)
  case atStart => exact ⟨u0, 0, 64, [], rfl, rfl, rfl, rfl, Nat.le_refl _, by decide, by show u0 < 8 ^ 22; omega, by simp, rfl, fun j h => by simp at h, HTH.out, HBL.out⟩
  obtain ⟨u, k, p, L, hgk, rfl, rfl, hkp, huu, hkF, hub, hdig, hL, hcl, hthr, hbw⟩ := hrel
  have HGK := Lib.hid hgk
  have HUB := Lib.hid hub
  have HDIG := Lib.hid hdig
  have HCL := Lib.hid hcl
  have HTHR := Lib.hid hthr
  have HBW := Lib.hid hbw
  obtain ⟨⟨cv, hcv⟩, hfv⟩ := at_there hthr p (by omega)
  clear hgk hub hdig hcl hthr hbw
  have j0 : (0 : Int) ≤ (p : Int) := by omega
  have j1 : (p : Int) < 65 := by omega
  by_cases hlt : u < 8
  · have j2 : (0 : Int) ≤ (u : Int) := by omega
    have j3 : (u : Int) < 36 := by omega
    have j4 : ¬ ((8 : Int) ≤ (u : Int)) := by omega
    go_upto_region 30 with fail
    rw [dgl u (by omega)]
    have hcs := cells_cons (dgu u) _ rfl ⟨_, hcv⟩ HCL.out
    obtain ⟨w5, HW5⟩ : ∃ w5 : World, Hid (wr.setCell ⟨ab, p, none⟩ (.int .u8 ((dgu u).toNat : Int)) = w5) := ⟨_, rfl⟩
    have hbw5 : Below ab w w5 := by rw [← HW5.out]; exact HBW.out.setCell (Nat.le_refl _) _
    rw [HW5.out] at hcs ⊢
    have hdig2 : dig 8 22 u0 = dgu u :: L := by
      rw [HDIG.out]
      obtain ⟨f, hf⟩ : ∃ f, 22 - k = f + 1 := ⟨22 - k - 1, by omega⟩
      rw [hf]
      show (if u < 8 then _ else _) ++ L = _
      rw [if_pos hlt]
      rfl
    have hconv : ∀ c, (convert 38 9 (.slice (some ⟨ab, p, none⟩) (65 - p) c)).run Tryd.prog w5 = .ok (.string (S (dgu u :: L))) w5 := fun c => by
      rw [show 65 - p = (dgu u :: L).length by simp [hL]; omega]
      exact run_convert_bytes_back w5 38 9 5 ⟨ab, p, none⟩ c (dgu u :: L) Tryd.underlying38 Tryd.underlying5 Tryd.underlying9 (fun j hj => by
        have e : (⟨ab, p, none⟩ : Addr).add j = ⟨ab, p + j, none⟩ := by
          unfold Addr.add
          split
          · rename_i h; subst h; rfl
          · simp
        rw [e]
        exact hcs j hj)
    have hsl := fun W => slice46 ab p (by omega) W
    have HBW5 := Lib.hid hbw5
    have HD2 := Lib.hid hdig2
    clear hcs hbw5 hdig2 hcv hfv
    go_wp2_with fail
    go_ret2
    refine ⟨?_, by rw [HAB.out]; exact HBW5.out⟩
    rw [HD2.out]
    rfl
  · have hand := and_8 u (by omega)
    obtain ⟨d, HD⟩ : ∃ d : Nat, Hid (u % 8 = d) := ⟨_, rfl⟩
    rw [HD.out] at hand
    have hd : d < 8 := by rw [← HD.out]; omega
    have j2 : (0 : Int) ≤ (d : Int) := by omega
    have j3 : (d : Int) < 36 := by omega
    have j4 : (8 : Int) ≤ (u : Int) := by omega
    go_wp2_with fail
    go_roundg (u / 8)
    case measure => have := HGK.out; omega
    case rel =>
      have hp1 : 1 ≤ p := by omega
      have hub := HUB.out
      obtain ⟨f, hf⟩ : ∃ f, 22 - k = f + 1 := ⟨22 - k - 1, by omega⟩
      have hf2 : 22 - (k + 1) = f := by omega
      rw [hf, Nat.pow_succ] at hub
      have hf1 : 1 ≤ f := by
        cases f with
        | zero => rw [Nat.pow_zero] at hub; omega
        | succ f => omega
      refine ⟨u / 8, k + 1, p - 1, dgu d :: L, rfl, congrArg (Value.int .u64) (Int.natCast_ediv _ _).symm, congrArg (Value.int .i64) (by omega), by omega, by omega, by omega, ?_, ?_, by simp [hL], ?_, there_setCell HTHR.out _ _, HBW.out.setCell (Nat.le_refl _) _⟩
      · rw [hf2]
        exact Nat.div_lt_of_lt_mul (by rw [Nat.mul_comm]; exact hub)
      · rw [HDIG.out, hf, hf2]
        show (if u < 8 then _ else _) ++ L = _
        rw [if_neg hlt, HD.out, List.append_assoc]
        rfl
      · intro j hj
        rw [show p - 1 + 1 + j = p + j by omega]
        exact cells_cons (dgu d) _ (congrArg Nat.cast (dgl d (by omega) _)) ⟨_, hcv⟩ HCL.out j hj
set_option maxHeartbeats 4000000 in
theorem fi_16 (u0 : Nat) (hu : u0 ≤ 9223372036854775807) (w : World) (hc : w.cell? ⟨2, 15, none⟩ = some (.int .u8 4)) (hg : 2 < w.heap.size) :
    Calls Tryd.prog 6 #[.int .i64 (u0 : Nat), .int .i64 16] w fun e w' => e = .returned (.string (S (dig 16 16 u0))) ∧ Below w.heap.size w w' := by
  have HF := Lib.hid (fb_16 u0 hu w hc hg)
  have h1 : (u0 : Int) ≤ 9223372036854775807 := by omega
  have h0 : ¬ ((u0 : Int) < 0) := by omega
  have h0' : decide ((u0 : Int) < 0) = false := decide_eq_false h0
  clear hc
  go_enter Tryd.func6, Tryd.ntmps6
  go_wp2_with fail
  refine HF.out.mono ?_
  rintro e w1 ⟨rfl, hb⟩
  have HB := Lib.hid hb
  clear hb
  go_wp2_with fail
  go_ret
  exact ⟨rfl, HB.out⟩
theorem fmt_16 (u0 : Nat) (hu : u0 ≤ 9223372036854775807) (w : World) (hc : w.cell? ⟨2, 15, none⟩ = some (.int .u8 4)) (hg : 2 < w.heap.size) :
    Calls Tryd.prog 4 #[.int .i64 (u0 : Nat), .int .i64 16] w fun e w' => e = .returned (.string (S (dig 16 16 u0))) ∧ Below w.heap.size w w' := by
  have HF := Lib.hid (fi_16 u0 hu w hc hg)
  clear hc
  go_enter Tryd.func4, Tryd.ntmps4
  go_wp2_with fail
  refine HF.out.mono ?_
  rintro e w1 ⟨rfl, hb⟩
  go_wp2_with fail
  go_ret
  exact ⟨rfl, hb⟩
set_option maxHeartbeats 4000000 in
theorem fi_8 (u0 : Nat) (hu : u0 ≤ 9223372036854775807) (w : World) (hc : w.cell? ⟨2, 7, none⟩ = some (.int .u8 3)) (hg : 2 < w.heap.size) :
    Calls Tryd.prog 6 #[.int .i64 (u0 : Nat), .int .i64 8] w fun e w' => e = .returned (.string (S (dig 8 22 u0))) ∧ Below w.heap.size w w' := by
  have HF := Lib.hid (fb_8 u0 hu w hc hg)
  have h1 : (u0 : Int) ≤ 9223372036854775807 := by omega
  have h0 : ¬ ((u0 : Int) < 0) := by omega
  have h0' : decide ((u0 : Int) < 0) = false := decide_eq_false h0
  clear hc
  go_enter Tryd.func6, Tryd.ntmps6
  go_wp2_with fail
  refine HF.out.mono ?_
  rintro e w1 ⟨rfl, hb⟩
  have HB := Lib.hid hb
  clear hb
  go_wp2_with fail
  go_ret
  exact ⟨rfl, HB.out⟩
theorem fmt_8 (u0 : Nat) (hu : u0 ≤ 9223372036854775807) (w : World) (hc : w.cell? ⟨2, 7, none⟩ = some (.int .u8 3)) (hg : 2 < w.heap.size) :
    Calls Tryd.prog 4 #[.int .i64 (u0 : Nat), .int .i64 8] w fun e w' => e = .returned (.string (S (dig 8 22 u0))) ∧ Below w.heap.size w w' := by
  have HF := Lib.hid (fi_8 u0 hu w hc hg)
  clear hc
  go_enter Tryd.func4, Tryd.ntmps4
  go_wp2_with fail
  refine HF.out.mono ?_
  rintro e w1 ⟨rfl, hb⟩
  go_wp2_with fail
  go_ret
  exact ⟨rfl, hb⟩
end Go.Proofs.YtpdfamigmkeflaaDoor.Ri
