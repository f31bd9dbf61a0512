/- One directive more is laid behind the others, in whatever order the operations come: what holds while it is done. -/
import Derived.Test.YtccmflnkhabilaaTgD
namespace Go.Proofs.Ytccmflnkhabilaa.Tg
open Go.RowKit
set_option linter.unusedVariables false
/-- The same memory. -/
structure Same (w w' : World) : Prop where
  heap : w'.heap = w.heap
  os : w'.os = w.os
  tape : w'.tape = w.tape
  output : w'.output = w.output
theorem Same.cell {w w' : World} (h : Same w w') (a : Addr) : w'.cell? a = w.cell? a := by unfold World.cell?; rw [h.heap]
theorem Same.frozen {w w' : World} (h : Same w w') (a : Addr) : w'.frozen? a = w.frozen? a := by unfold World.frozen?; rw [h.heap]
theorem Same.alloc {w w' : World} (h : Same w w') (o : Obj) : Same (w.alloc o) (w'.alloc o) := ⟨by show w'.heap.push o = w.heap.push o; rw [h.heap], h.os, h.tape, h.output⟩
theorem Same.below {w w' : World} (h : Same w w') (B : Nat) : Below B w w' := ⟨h.os, h.tape, h.output, by rw [h.heap]; exact Nat.le_refl _, fun k _ => by rw [h.heap]⟩
theorem Same.owns {w w' : World} (h : Same w w') {B : Nat} {t : TypeId} {s : Nat} {V : Value} {n : Nat} {X : List Value} (ho : w.ownsRow B t s V n X) : w'.ownsRow B t s V n X := by
  unfold World.ownsRow at *
  rw [h.heap]
  exact ho
/-- The two texts of one more. -/
def two (b1 n1 b2 n2 : Nat) : List Value := [.slice (some ⟨b1, 0, none⟩) n1 n1, .slice (some ⟨b2, 0, none⟩) n2 n2]
def pair (b1 n1 b2 n2 : Nat) : Obj := .cells (two b1 n1 b2 n2).toArray 74
/-- What holds while it is done. -/
def R11 (B p k b1 n1 b2 n2 : Nat) (V : Value) (X : List Value) (w3 : World) (L : Nat → Bool) (vs : Nat → Value) (w : World) : Prop :=
  (L 6 = false ∧ L 7 = false ∧ L 10 = false ∧ Same w3 w) ∨
  (L 6 = true ∧ L 7 = false ∧ L 10 = false ∧ vs 6 = .slice (some ⟨w3.heap.size, 0, none⟩) 1 1 ∧ Same (w3.alloc (pair b1 n1 b2 n2)) w) ∨
  (L 6 = true ∧ L 7 = true ∧ ∃ g cap w5, vs 7 = .slice (some ⟨g, 0, none⟩) (k + 1) cap ∧ w5.ownsRow B 74 2 (.slice (some ⟨g, 0, none⟩) (k + 1) cap) (k + 1) (X ++ two b1 n1 b2 n2) ∧
    (w3.alloc (pair b1 n1 b2 n2)).grownBy w5 V.ownBlock ∧ (V.ownBlock = some g ∨ g = w3.heap.size + 1) ∧ g < w5.heap.size ∧
    ((L 10 = false ∧ w = w5) ∨ (L 10 = true ∧ w = w5.setCell ⟨p, 20, none⟩ (.slice (some ⟨g, 0, none⟩) (k + 1) cap))))
theorem beq_no {i k : Nat} {b : Bool} (h : i ≠ k) : (k == i || b) = b := by
  rw [show (k == i) = false by simpa using (Ne.symm h), Bool.false_or]
theorem R11.pure {B p k b1 n1 b2 n2 : Nat} {V : Value} {X : List Value} {w3 : World} {L : Nat → Bool} {vs : Nat → Value} {w : World} (h : R11 B p k b1 n1 b2 n2 V X w3 L vs w) (i : Nat) (v : Value) (h6 : i ≠ 6) (h7 : i ≠ 7) (h10 : i ≠ 10) :
    R11 B p k b1 n1 b2 n2 V X w3 (fun j => j == i || L j) (Sp.upd vs i v) w := by
  unfold R11 at *
  simp only
  rw [beq_no h6, beq_no h7, beq_no h10, upd_off (Ne.symm h6), upd_off (Ne.symm h7)]
  exact h
/-- The emitter's directives have not been stored yet. -/
theorem R11.cell {B p k b1 n1 b2 n2 : Nat} {V : Value} {X : List Value} {w3 : World} {L : Nat → Bool} {vs : Nat → Value} {w : World} (h : R11 B p k b1 n1 b2 n2 V X w3 L vs w) (h7 : L 7 = false) (a : Addr) (ha : a.block < w3.heap.size) : w.cell? a = w3.cell? a := by
  rcases h with ⟨_, _, _, h⟩ | ⟨_, _, _, _, h⟩ | ⟨_, h, _⟩
  · exact h.cell a
  · rw [h.cell a]; exact World.cell?_alloc_lt _ _ _ ha
  · rw [h7] at h; cases h
theorem R11.built {B p k b1 n1 b2 n2 : Nat} {V : Value} {X : List Value} {w3 : World} {L : Nat → Bool} {vs : Nat → Value} {w : World} (h : R11 B p k b1 n1 b2 n2 V X w3 L vs w) (h6 : L 6 = false) :
    R11 B p k b1 n1 b2 n2 V X w3 (fun j => j == 6 || L j) (Sp.upd vs 6 (.slice (some ⟨w.heap.size, 0, none⟩) 1 1)) (w.alloc (pair b1 n1 b2 n2)) := by
  rcases h with ⟨_, h7, h10, h⟩ | ⟨h, _⟩ | ⟨h, _⟩
  · refine .inr (.inl ⟨rfl, (beq_no (by decide)).trans h7, (beq_no (by decide)).trans h10, by rw [upd_on, h.heap], h.alloc _⟩)
  · rw [h6] at h; cases h
  · rw [h6] at h; cases h
theorem info74x : (Try.prog.info? 74).map (fun i => (i.zero, i.size, i.bytes)) = some (some (.agg #[.slice none 0 0, .slice none 0 0]), 2, 48) := by kernel_rfl
theorem two_one (b1 n1 b2 n2 : Nat) : ∀ u ∈ two b1 n1 b2 n2, u.oneCell' = true := by
  intro u hu
  unfold two at hu
  simp at hu
  rcases hu with rfl | rfl <;> rfl
theorem R11.append {B p k b1 n1 b2 n2 : Nat} {V : Value} {X : List Value} {w3 : World} {L : Nat → Bool} {vs : Nat → Value} {w : World} (h : R11 B p k b1 n1 b2 n2 V X w3 L vs w) (h6 : L 6 = true) (h7 : L 7 = false) (hown : w3.ownsRow B 74 2 V k X) (hk : k ≤ 1000000) (hB : B ≤ w3.heap.size) (ty : TypeId) :
    vs 6 = .slice (some ⟨w3.heap.size, 0, none⟩) 1 1 ∧ ∃ g cap w5, (Builtin.append_ #[57, 57] ty #[V, .slice (some ⟨w3.heap.size, 0, none⟩) 1 1]).run Try.prog w = .ok (.slice (some ⟨g, 0, none⟩) (k + 1) cap) w5 ∧
      R11 B p k b1 n1 b2 n2 V X w3 (fun j => j == 7 || L j) (Sp.upd vs 7 (.slice (some ⟨g, 0, none⟩) (k + 1) cap)) w5 := by
  rcases h with ⟨h, _⟩ | ⟨_, _, h10, hv, h⟩ | ⟨_, h, _⟩
  · rw [h6] at h; cases h
  · refine ⟨hv, ?_⟩
    obtain ⟨i0, hi0, hz0, hz1, hz2⟩ := info_parts info74x
    have hsz : w.heap.size = w3.heap.size + 1 := by rw [h.heap]; simp
    have ho := h.owns (hown.alloc (pair b1 n1 b2 n2))
    have hget : w.heap[w3.heap.size]? = some (.cells (two b1 n1 b2 n2).toArray 74 (0, 0)) := by rw [h.heap]; exact alloc_new _ _
    obtain ⟨g, cap, w5, hr, h2, h3, h4, h5⟩ := run_append_lies (P := Try.prog) w 57 ty B 74 i0 (.agg #[.slice none 0 0, .slice none 0 0]) 2 48 Try.underlying57 hi0 hz0 hz1 hz2 rfl (by omega) V k X ho ⟨w3.heap.size, 0, none⟩ 1 1 (two b1 n1 b2 n2) rfl (World.news_of_block hget) (two_one _ _ _ _) (by omega) (by unfold maxLen; omega) (by omega) (by omega) (w3.heap.size + 1) hsz
    refine ⟨g, cap, w5, hr, .inr (.inr ⟨(beq_no (by decide)).trans h6, rfl, g, cap, w5, upd_on, h2, ?_, h4, h5, .inl ⟨(beq_no (by decide)).trans h10, rfl⟩⟩)⟩
    exact ⟨h3.os.trans h.os, h3.tape.trans h.tape, h3.output.trans h.output, by rw [← h.heap]; exact h3.size, fun i hi hne => by rw [← h.heap] at hi ⊢; exact h3.block i hi hne⟩
  · rw [h7] at h; cases h
theorem R11.store {B p k b1 n1 b2 n2 : Nat} {V : Value} {X : List Value} {w3 : World} {L : Nat → Bool} {vs : Nat → Value} {w : World} (h : R11 B p k b1 n1 b2 n2 V X w3 L vs w) (h7 : L 7 = true) (h10 : L 10 = false) (u : Value) (hp : p < w3.heap.size) (hVp : V.ownBlock ≠ some p) (hc : w3.cell? ⟨p, 20, none⟩ = some V) (hf : w3.frozen? ⟨p, 20, none⟩ = false) :
    ∃ g cap, vs 7 = .slice (some ⟨g, 0, none⟩) (k + 1) cap ∧ w.cell? ⟨p, 20, none⟩ = some V ∧ w.frozen? ⟨p, 20, none⟩ = false ∧
      R11 B p k b1 n1 b2 n2 V X w3 (fun j => j == 10 || L j) (Sp.upd vs 10 u) (w.setCell ⟨p, 20, none⟩ (.slice (some ⟨g, 0, none⟩) (k + 1) cap)) := by
  rcases h with ⟨_, h, _⟩ | ⟨_, h, _⟩ | ⟨h6, _, g, cap, w5, hv, ho, hg, hgg, hlt, ⟨_, rfl⟩ | ⟨h, _⟩⟩
  · rw [h7] at h; cases h
  · rw [h7] at h; cases h
  · refine ⟨g, cap, hv, ?_, ?_, .inr (.inr ⟨(beq_no (by decide)).trans h6, (beq_no (by decide)).trans h7, g, cap, w, by rw [upd_off (by decide)]; exact hv, ho, hg, hgg, hlt, .inr ⟨rfl, rfl⟩⟩)⟩
    · rw [hg.cell_far ⟨p, 20, none⟩ (by simp; omega) (Ne.symm hVp), World.cell?_alloc_lt _ _ _ hp]; exact hc
    · rw [hg.frozen_far ⟨p, 20, none⟩ (by simp; omega) (Ne.symm hVp), World.frozen?_alloc_old _ _ _ (by simp; omega)]; exact hf
  · rw [h10] at h; cases h
end Go.Proofs.Ytccmflnkhabilaa.Tg
