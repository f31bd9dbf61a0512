/- Which tag directives may be written, as the thin package tells it: the walks. For handles in ASCII. -/
import Derived.Test.YtccmflnkhabilaaDirA
namespace Go.Proofs.Ytccmflnkhabilaa.Dir
open Go.RowKit Go.Proofs.Ytccmflnkhabilaa.Em Go.Proofs.Ytccmflnkhabilaa.Al Go.Proofs.Ytccmflnkhabilaa.Wd
set_option linter.unusedVariables false
set_option maxHeartbeats 1000000 in
theorem dir_zero (p t c m d : Nat) (A B : Option Addr) (z : Nat → Int) (w : World) (y : Value)
    (h0 : w.cell? ⟨p, 0, none⟩ = some (.int .i64 0)) (h1 : w.cell? ⟨p, 1, none⟩ = some y) (f0 : w.frozen? ⟨p, 0, none⟩ = false) (f1 : w.frozen? ⟨p, 1, none⟩ = false)
    (t0 : w.cell? ⟨t, 0, none⟩ = some (.slice A 0 c)) (t1 : w.cell? ⟨t, 1, none⟩ = some (.slice B m d)) :
    Calls Try.prog 25 #[.pointer (some ⟨p, 0, none⟩), .pointer (some ⟨t, 0, none⟩)] w (Told p (fine 0 m z) w) := by
  have herr := fun s => err_any p s w _ _ h0 h1 f0 f1
  have HE := Lib.hid herr
  clear herr h1 f0 f1
  have hf : fine 0 m z = false := by unfold fine; rw [decide_eq_false_iff_not]; omega
  go_enter Try.func25, Try.ntmps25
  go_wp2_with fail
  refine (HE.out _).mono ?_
  intro e w' h
  obtain ⟨rfl, hc, hx⟩ := h
  have HC := Lib.hid hc
  clear hc
  go_wp2_with fail
  go_ret
  exact told_failed hf ⟨rfl, HC.out, hx⟩
/-- A text of bytes that is read: nil, or its cells. -/
def Reads (w : World) (A : Option Addr) (n : Nat) (z : Nat → Int) : Prop := n = 0 ∨ ∃ b o, A = some ⟨b, o, none⟩ ∧ b < w.heap.size ∧ ∀ i, i < n → w.cell? ⟨b, o + i, none⟩ = some (.int .u8 (z i))
theorem Reads.below {w w' : World} {A : Option Addr} {n : Nat} {z : Nat → Int} (h : Reads w A n z) (hb : Below w.heap.size w w') : Reads w' A n z := by
  rcases h with h | ⟨b, o, h1, h2, h3⟩
  · exact .inl h
  · exact .inr ⟨b, o, h1, by have := hb.size; omega, fun i hi => by rw [hb.cell (p := ⟨b, o + i, none⟩) h2]; exact h3 i hi⟩
set_option maxHeartbeats 1000000 in
theorem zz_any (p n c m d : Nat) (A B : Option Addr) (z : Nat → Int) (w : World) (y : Value) (hn : n ≤ 2147483647) (hm : m ≤ 2147483647) (hp : p < w.heap.size)
    (h0 : w.cell? ⟨p, 0, none⟩ = some (.int .i64 0)) (h1 : w.cell? ⟨p, 1, none⟩ = some y) (f0 : w.frozen? ⟨p, 0, none⟩ = false) (f1 : w.frozen? ⟨p, 1, none⟩ = false)
    (hz : Reads w A n z) (hr : ∀ i, 0 ≤ z i ∧ z i < 128) :
    Calls Try.prog 10 #[.pointer (some ⟨p, 0, none⟩), .slice A n c, .slice B m d] w (Told p (fine n m z) w) := by
  obtain ⟨w1, hw1⟩ : ∃ w1 : World, w1 = w.alloc (.cells #[.slice A n c, .slice B m d] 74) := ⟨_, rfl⟩
  have hb : Below w.heap.size w w1 := by rw [hw1]; exact (Below.refl _ _).alloc (Nat.le_refl _) _
  have hx : Ext p w w1 := .of_below hb
  have t0 : w1.cell? ⟨w.heap.size, 0, none⟩ = some (.slice A n c) := by rw [hw1]; simp [World.cell?_alloc_new]
  have t1 : w1.cell? ⟨w.heap.size, 1, none⟩ = some (.slice B m d) := by rw [hw1]; simp [World.cell?_alloc_new]
  have hcall : Calls Try.prog 25 #[.pointer (some ⟨p, 0, none⟩), .pointer (some ⟨w.heap.size, 0, none⟩)] w1 (Told p (fine n m z) w1) := by
    have g0 := (hb.cell (p := ⟨p, 0, none⟩) hp).trans h0
    have g1 := (hb.cell (p := ⟨p, 1, none⟩) hp).trans h1
    have e0 := (hb.frozen (p := ⟨p, 0, none⟩) hp).trans f0
    have e1 := (hb.frozen (p := ⟨p, 1, none⟩) hp).trans f1
    rcases hz.below hb with rfl | ⟨b, o, rfl, h2, h3⟩
    · exact dir_zero p w.heap.size c m d A B z w1 y g0 g1 e0 e1 t0 t1
    · exact dir_any p w.heap.size b o n c m d B z w1 y hn hm g0 g1 e0 e1 t0 t1 h3 hr
  rw [hw1] at hcall
  have HC := Lib.hid hcall
  have HX := Lib.hid hx
  clear hcall hx t0 t1 hb h0 h1 f0 f1 hz hr
  go_enter Try.func10, Try.ntmps10
  go_wp2_with fail
  refine HC.out.mono ?_
  intro e w' h
  obtain ⟨rfl, hc, hx⟩ := h
  have HX2 := Lib.hid (HX.out.trans (by rw [hw1]; exact hx))
  have HC2 := Lib.hid hc
  clear hc hx hw1
  go_wp2_with fail
  go_ret
  exact ⟨rfl, HC2.out, HX2.out⟩
end Go.Proofs.Ytccmflnkhabilaa.Dir
