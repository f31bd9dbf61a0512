/- impl.AnalyzeDirective: the walk. For handles in ASCII. -/
import Derived.Test.YtccmflnkhabilaaDirB
namespace Go.Proofs.Ytccmflnkhabilaa.Dir
open Go.RowKit Go.Proofs.Ytccmflnkhabilaa.Em Go.Proofs.Ytccmflnkhabilaa.Al Go.Proofs.Ytccmflnkhabilaa.Wd
set_option linter.unusedVariables false
/-- A fault of a kind alone. -/
def flt (k : Int) : Value := .agg #[.int .i64 k, .int .i64 0, .int .i64 0, .int .i64 0, .int .i64 0, .int .i64 0, .int .i64 0, .int .i64 0, .int .i64 0]
set_option maxHeartbeats 2000000 in
set_option maxRecDepth 100000 in
theorem impl_bool (n c m d : Nat) (A B : Option Addr) (z : Nat → Int) (w : World) (bb : Bool) (hf : fine n m z = bb) (hn : n ≤ 2147483647) (hm : m ≤ 2147483647) (hz : Reads w A n z) (hr : ∀ i, 0 ≤ z i ∧ z i < 128) :
    Calls Try.prog 6 #[.slice A n c, .slice B m d] w fun e w' => e = .returned (flt (if bb then 0 else 5)) ∧ Below w.heap.size w w' := by
  have HF := Lib.hid hf
  clear hf
  have HZ := Lib.hid hz
  have HR := Lib.hid hr
  clear hz hr
  go_enter Try.func6, Try.ntmps6
  try simp only [List.append]
  go_wp2_with fail
  obtain ⟨w0, hw0⟩ : ∃ w0 : World, w0 = (w.alloc (Obj.cells #[Value.int IntKind.i64 0, Value.int IntKind.i64 0, Value.int IntKind.i64 0, Value.int IntKind.i64 0, Value.int IntKind.i64 0, Value.int IntKind.i64 0, Value.int IntKind.i64 0, Value.int IntKind.i64 0, Value.int IntKind.i64 0] 27)).alloc (Obj.cells #[Value.slice none 0 0] 22) := ⟨_, rfl⟩
  rw [← hw0]
  have hb0 : Below w.heap.size w w0 := by rw [hw0]; exact ((Below.refl _ _).alloc (Nat.le_refl _) _).alloc (by simp) _
  have hs0 : w0.heap.size = w.heap.size + 2 := by rw [hw0]; simp
  have c0 : ∀ k, k < 9 → w0.cell? ⟨w.heap.size, k, none⟩ = some (.int .i64 0) ∧ w0.frozen? ⟨w.heap.size, k, none⟩ = false := by
    intro k hk
    rw [hw0]
    have : k = 0 ∨ k = 1 ∨ k = 2 ∨ k = 3 ∨ k = 4 ∨ k = 5 ∨ k = 6 ∨ k = 7 ∨ k = 8 := by omega
    rcases this with rfl | rfl | rfl | rfl | rfl | rfl | rfl | rfl | rfl <;> simp
  have HC0 := Lib.hid c0
  have HB0 := Lib.hid hb0
  clear c0 hb0 hw0
  refine (emitter_any false (w.heap.size + 1) w0).mono ?_
  rintro e w1 ⟨p, rfl, hp1, hp2, ht, q0, q13, q20, q36, q37, hb1⟩
  have hB1 : Below w.heap.size w w1 := HB0.out.trans (hb1.mono (by omega))
  obtain ⟨y, hy⟩ : ∃ y, w1.cell? ⟨p, 1, none⟩ = some y := by
    have := (ht 1 (by omega)).1
    rw [Nat.zero_add] at this
    exact Option.isSome_iff_exists.1 this
  have f0 := (ht 0 (by omega)).2
  have f1 := (ht 1 (by omega)).2
  rw [Nat.zero_add] at f0 f1
  have hzz := zz_any p n c m d A B z w1 y hn hm hp2 q0 hy f0 f1 (HZ.out.below hB1) HR.out
  rw [HF.out] at hzz
  have c1 : ∀ k, k < 9 → w1.cell? ⟨w.heap.size, k, none⟩ = some (.int .i64 0) ∧ w1.frozen? ⟨w.heap.size, k, none⟩ = false := by
    intro k hk
    have := HC0.out k hk
    rw [hb1.cell (p := ⟨w.heap.size, k, none⟩) (by simp; omega), hb1.frozen (p := ⟨w.heap.size, k, none⟩) (by simp; omega)]
    exact this
  have HZZ := Lib.hid hzz
  have HC1 := Lib.hid c1
  have HB1 := Lib.hid hB1
  have hs1 : w.heap.size + 2 ≤ w1.heap.size := by have := hb1.size; omega
  have hp3 : w.heap.size + 2 ≤ p := by omega
  clear hzz c1 hB1 hb1 HB0 HC0 q0 q13 q20 q36 q37 ht hy f0 f1 hs0 hp1
  go_wp2_with fail
  refine HZZ.out.mono ?_
  intro e w2 h
  obtain ⟨rfl, hc2, hx2⟩ := h
  have c2 : ∀ k, k < 9 → w2.cell? ⟨w.heap.size, k, none⟩ = some (.int .i64 0) ∧ w2.frozen? ⟨w.heap.size, k, none⟩ = false := by
    intro k hk
    have hblk := hx2.block w.heap.size (by omega) (by omega)
    rw [World.cell?_of_block (w := w1) (a := ⟨w.heap.size, k, none⟩) hblk, World.frozen?_of_block (w := w1) (a := ⟨w.heap.size, k, none⟩) hblk]
    exact HC1.out k hk
  have HB2 := Lib.hid (HB1.out.trans (hx2.below (by omega) (by omega)))
  obtain ⟨k0, g0⟩ := c2 0 (by omega)
  obtain ⟨k1, g1⟩ := c2 1 (by omega)
  obtain ⟨k2, g2⟩ := c2 2 (by omega)
  obtain ⟨k3, g3⟩ := c2 3 (by omega)
  obtain ⟨k4, g4⟩ := c2 4 (by omega)
  obtain ⟨k5, g5⟩ := c2 5 (by omega)
  obtain ⟨k6, g6⟩ := c2 6 (by omega)
  obtain ⟨k7, g7⟩ := c2 7 (by omega)
  obtain ⟨k8, g8⟩ := c2 8 (by omega)
  clear c2 hx2 HC1 HB1 HZZ
  cases bb
  · simp only [Bool.false_eq_true, if_false] at hc2 ⊢
    go_wp2
    refine bodyPost_ret (v := flt 5) (by simp [results, Try.results6, go_sem, flt, k0, k1, k2, k3, k4, k5, k6, k7, k8]) rfl ⟨rfl, ?_⟩
    repeat (first | (with_reducible refine Below.setCell ?_ (by simp) _) | (with_reducible exact HB2.out))
  · simp only [if_true] at hc2 ⊢
    go_wp2
    refine bodyPost_ret (v := flt 0) (by simp [results, Try.results6, go_sem, flt, k0, k1, k2, k3, k4, k5, k6, k7, k8]) rfl ⟨rfl, ?_⟩
    repeat (first | (with_reducible refine Below.setCell ?_ (by simp) _) | (with_reducible exact HB2.out))
theorem impl_any (n c m d : Nat) (A B : Option Addr) (z : Nat → Int) (w : World) (hn : n ≤ 2147483647) (hm : m ≤ 2147483647) (hz : Reads w A n z) (hr : ∀ i, 0 ≤ z i ∧ z i < 128) :
    Calls Try.prog 6 #[.slice A n c, .slice B m d] w fun e w' => e = .returned (flt (if fine n m z then 0 else 5)) ∧ Below w.heap.size w w' :=
  impl_bool n c m d A B z w _ rfl hn hm hz hr
end Go.Proofs.Ytccmflnkhabilaa.Dir
