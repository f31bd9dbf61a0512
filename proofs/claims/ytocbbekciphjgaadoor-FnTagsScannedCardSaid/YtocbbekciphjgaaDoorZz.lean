/- What the listed variable io.EOF holds when the call begins: the one cell, out of the row's premise; and a world that meets it. -/
import Derived.Test.YtocbbekciphjgaaDoorRows
import Derived.ChangeSame
import Derived.ChangeVars
import Derived.JoinedOf
import Derived.RowKit
import Derived.RowKitTokens
import Derived.LaidLaws
import Derived.LaidHandle
import Derived.Stop.ErrReads
import Derived.Stop.Joined
namespace Go.Proofs.YtocbbekciphjgaaDoor.Eof
open Go.ChangeShapes Go.WideShapes Go.RowKit
set_option linter.unusedVariables false
theorem named : Tryd.prog.globalNamed "io.EOF" = some 2 := by kernel_rfl
theorem typed : (Tryd.prog.globals[2]?).map (·.type) = some 172 := by kernel_rfl
theorem cells209 : Tryd.prog.cellsOf 209 = 1 := by kernel_rfl
theorem cells9 : Tryd.prog.cellsOf 9 = 1 := by kernel_rfl
theorem star : "*" ++ "errors.errorString" = "*errors.errorString" := by decide
theorem row181 (u : TypeId) (h : Tryd.prog.typeName? 3 u = some "*errors.errorString") : u = 181 :=
  typeName_ptr_named (nm := "errors.errorString") (by rw [star]; kernel_rfl) (by kernel_rfl) (by decide) u (by rw [star]; exact h)
set_option maxRecDepth 100000 in
theorem eof_of_laid {W : World} (h : laidMetH Tryd.prog [("io.EOF", Rows.laid_io_EOF)] W) : ∃ a : Addr, W.cell? ⟨2, 0, none⟩ = some (.iface 181 (.pointer (some a))) := by
  have h' : laidMet Tryd.prog [("io.EOF", Rows.laid_io_EOF)] W := h
  obtain ⟨ps, ⟨g0, t0, cs0, f0, p0, q0, hg0, ht0, hv0, hd0, hq0, e0⟩, hnd, hrows⟩ := h'
  obtain rfl := Option.some.inj (named.symm.trans hg0)
  obtain rfl := Option.some.inj (typed.symm.trans ht0)
  have hq0' : q0 = [] := hq0
  subst hq0'
  subst e0
  obtain ⟨l0⟩ := cs0
  have ok0 : ∀ u v, l0 = [.iface u v] → Value.okWide Tryd.prog W .any 0 u v := fun u v e => by
    subst e
    exact (hrows 2 0 (by simp [MemPlace.row])).2 u v (by simpa using World.var?_cell hg0 hv0 0)
  obtain ⟨a0, s0, rfl, hc0, hs0, hz0, rfl⟩ := errorString_of_trod Tryd.underlying172 row181 Tryd.underlying181 Tryd.underlying209 rfl rfl Tryd.underlying9 cells209 cells9 hd0 ok0
  exact ⟨a0, by simpa using World.var?_cell hg0 hv0 0⟩
noncomputable def low : Nat := (World.holding Tryd.prog default ⟨#[], #[], []⟩).heap.size
/-- A world that meets it: the settled one, the variable's cell laid. -/
noncomputable def laidWorld (os : Os) : World :=
  let w0 := World.holding Tryd.prog os ⟨#[.cells #[.string ⟨#[69, 79, 70]⟩] 209], #[], []⟩
  { w0 with heap := w0.heap.modify 2 fun
      | .cells _ t frozen => .cells #[.iface 181 (.pointer (some ⟨low, 0, none⟩))] t frozen
      | o => o }
theorem laidWorld_met (os : Os) (args : Array Value) : laidMetH Tryd.prog [("io.EOF", Rows.laid_io_EOF)] ((laidWorld os).forCall (fun _ _ => 0) ⟨#[], args, []⟩).memory :=
  laidMetH_of_parts (laidMet_of_run (ps := [.cell 2 0, .cell low 0]) 8 (by kernel_rfl) (by kernel_rfl) (by kernel_rfl)) (by kernel_rfl)
end Go.Proofs.YtocbbekciphjgaaDoor.Eof
