/- FnDirectivesAnalyzed: the law's walk, for all arguments. -/
import Derived.Test.YtccmflnkhabilaaDirM
import Derived.OpenShut
namespace Go.Proofs.Ytccmflnkhabilaa.DirL
open Go.RowKit Go.Proofs.Ytccmflnkhabilaa.Em Go.Proofs.Ytccmflnkhabilaa.Dir
set_option linter.unusedVariables false
theorem cell_lt {w : World} {a : Addr} {v : Value} (h : w.cell? a = some v) : a.block < w.heap.size := by
  unfold World.cell? at h
  by_cases hlt : a.block < w.heap.size
  · exact hlt
  · rw [Array.getElem?_eq_none (by omega)] at h
    cases h
/-- What a row of bytes is. -/
theorem row_of {w : World} {a : Option Addr} {len cap : Nat} {zs : List Int} (h : isRow .u8 w a len cap zs) (hlen : 0 < len) :
    ∃ b o, a = some ⟨b, o, none⟩ ∧ b < w.heap.size ∧ (∀ i, i < len → w.cell? ⟨b, o + i, none⟩ = some (.int .u8 (zs.getD i 0))) ∧ (∀ i, 0 ≤ zs.getD i 0 ∧ zs.getD i 0 < 256) := by
  rcases h with ⟨_, h, _⟩ | ⟨⟨b, o, sp⟩, rfl, hl, _, hz, hc, hwf⟩
  · omega
  have h0 := hc 0 (by omega)
  obtain rfl : sp = none := by simpa [Addr.add] using World.cell?_spot h0
  refine ⟨b, o, rfl, cell_lt (a := ⟨b, o, none⟩) (by simpa [Addr.add] using h0), fun i hi => ?_, fun i => ?_⟩
  · have := hc i (by omega)
    unfold Addr.add at this
    split at this
    · rename_i e; subst e; exact this
    · exact this
  · rw [List.getD_eq_getElem?_getD]
    cases e : zs[i]? with
    | none => exact ⟨by simp, by simp⟩
    | some x =>
      have := hwf x (List.mem_of_getElem? e)
      unfold Lit.wf at this
      rw [Bool.and_eq_true, decide_eq_true_eq, decide_eq_true_eq] at this
      obtain ⟨h1, h2⟩ := this
      rw [show IntKind.u8.min = 0 from rfl] at h1
      rw [show IntKind.u8.max = 255 from rfl] at h2
      simp
      omega
theorem law_any (a0 : Option Addr) (len0 cap0 : Nat) (z0 : List Int) (a1 : Option Addr) (len1 cap1 : Nat) (z1 : List Int) (W : World) (w0 : isRow .u8 W a0 len0 cap0 z0) (y0 : len0 * 1 ≤ 140737488351232) (w1 : isRow .u8 W a1 len1 cap1 z1) (y1 : len1 * 1 ≤ 140737488351232) :
    Calls Try.prog 3 #[.slice a0 len0 cap0, .slice a1 len1 cap1] W fun e w' => e = .returned (.bool true) ∧ Below W.heap.size W w' := by
  by_cases hl : 1024 < len0 ∨ 1024 < len1
  · exact law_large a0 a1 len0 cap0 len1 cap1 W (by omega) (by omega) hl
  by_cases hn : len0 = 0
  · subst hn
    exact law_nil a0 a1 cap0 len1 cap1 W (by omega)
  obtain ⟨b, o, rfl, hb, hc, hr⟩ := row_of w0 (by omega)
  by_cases h : z0.getD 0 0 ≠ 33 ∨ z0.getD (len0 - 1) 0 ≠ 33 ∨ len1 = 0
  · exact law_off b o len0 cap0 len1 cap1 a1 (fun i => z0.getD i 0) W (by omega) (by omega) (by omega) hc hb hr h
  · exact law_true b o len0 cap0 len1 cap1 a1 (fun i => z0.getD i 0) W (by omega) (by omega) (by omega) (by omega) hc hb hr (by omega) (by omega)
end Go.Proofs.Ytccmflnkhabilaa.DirL
