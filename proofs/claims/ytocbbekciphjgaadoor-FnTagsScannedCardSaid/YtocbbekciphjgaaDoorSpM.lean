/- What holds in the midst of a region that reads some blocks, calls what makes new blocks alone, and writes blocks of its own. -/
import Derived.Test.YtocbbekciphjgaaDoorScF
namespace Go.Proofs.YtocbbekciphjgaaDoor.Sc
open Go.RowKit Go.Proofs.YtocbbekciphjgaaDoor.Rdp Go.Proofs.YtocbbekciphjgaaDoor.Pa
set_option linter.unusedVariables false
set_option linter.unusedSimpArgs false
/-- A block: its number, its type, its cells. -/
abbrev Blk := Nat × TypeId × List Value
structure Mid (bs os : List Blk) (B : Nat) (w0 w : World) : Prop where
  st : ∀ x ∈ bs, Bk w x.1 x.2.1 x.2.2
  ow : ∀ x ∈ os, ∃ cur, Bk w x.1 x.2.1 cur ∧ cur.length = x.2.2.length
  bel : Below B w0 w
  hB : B ≤ w0.heap.size
  old : ∀ x ∈ os, B ≤ x.1
  ne : ∀ x ∈ os, ∀ y ∈ bs, y.1 ≠ x.1
  nd : ∀ x ∈ os, ∀ y ∈ os, y.1 = x.1 → y = x
/-- What has been written stays. -/
def MidR (os : List Blk) (w w' : World) : Prop := ∀ x ∈ os, Bk w x.1 x.2.1 x.2.2 → Bk w' x.1 x.2.1 x.2.2
theorem MidR.refl (os : List Blk) (w : World) : MidR os w w := fun _ _ h => h
theorem MidR.below {os : List Blk} {w w' : World} (hb : Below w.heap.size w w') : MidR os w w' := fun x _ h => h.kp (Kp.of_below (ps := []) hb) (by simp)
theorem Mid.below {bs os : List Blk} {B : Nat} {w0 w w' : World} (h : Mid bs os B w0 w) (hb : Below w.heap.size w w') : Mid bs os B w0 w' := by
  have hk : Kp [] w w' := Kp.of_below hb
  refine ⟨fun x hx => (h.st x hx).kp hk (by simp), fun x hx => ?_, h.bel.trans (hb.mono ?_), h.hB, h.old, h.ne, h.nd⟩
  · obtain ⟨cur, h1, h2⟩ := h.ow x hx
    exact ⟨cur, h1.kp hk (by simp), h2⟩
  · have := h.bel.size; have := h.hB; omega
theorem Mid.cell {bs os : List Blk} {B : Nat} {w0 w : World} (h : Mid bs os B w0 w) (x : Blk) (hx : x ∈ bs) (i : Nat) {v : Value} (hi : x.2.2[i]? = some v) : w.cell? ⟨x.1, i, none⟩ = some v := (at_ (h.st x hx) i hi).1
theorem Mid.store {bs os : List Blk} {B : Nat} {w0 w : World} (h : Mid bs os B w0 w) (x : Blk) (hx : x ∈ os) (hi : (Tryd.prog.info? x.2.1).map (·.size) = some x.2.2.length) (h1 : x.2.2.toArray.all (·.oneCell') = true) :
    (Instr.storeAt x.2.1 (.pointer (some ⟨x.1, 0, none⟩)) (.agg x.2.2.toArray)).run Tryd.prog w = .ok () (w.setCells x.1 0 x.2.2) ∧ Mid bs os B w0 (w.setCells x.1 0 x.2.2) ∧ MidR os w (w.setCells x.1 0 x.2.2) ∧ Bk (w.setCells x.1 0 x.2.2) x.1 x.2.1 x.2.2 := by
  obtain ⟨cur, h5, h6⟩ := h.ow x hx
  have hs := store_all x.2.2 h5 h6 hi h1
  have hk : Kp [x.1] w (w.setCells x.1 0 x.2.2) := Kp.setCells _ (by simp) _ _ _ (Kp.refl _ _)
  refine ⟨hs.1, ⟨fun y hy => (h.st y hy).kp hk (by simp; exact h.ne x hx y hy), fun y hy => ?_, h.bel.trans (hk.below ?_ (by simp; exact h.old x hx)), h.hB, h.old, h.ne, h.nd⟩, fun y hy hb => ?_, hs.2⟩
  · by_cases he : y.1 = x.1
    · obtain rfl := h.nd x hx y hy he
      exact ⟨_, hs.2, rfl⟩
    · obtain ⟨c2, g1, g2⟩ := h.ow y hy
      exact ⟨c2, g1.kp hk (by simp; exact he), g2⟩
  · have := h.bel.size; have := h.hB; omega
  · by_cases he : y.1 = x.1
    · obtain rfl := h.nd x hx y hy he
      exact hs.2
    · exact hb.kp hk (by simp; exact he)
end Go.Proofs.YtocbbekciphjgaaDoor.Sc
