/- A text as bytes in memory, and the law's texts: plain laws. -/
import Derived.Test.YtocbbekciphjgaaDoorScI
import Derived.Laws.IdiomStrings
namespace Go.Proofs.YtocbbekciphjgaaDoor.Sc
open Go.RowKit Go.Proofs.YtocbbekciphjgaaDoor.Rdp Go.Proofs.YtocbbekciphjgaaDoor.Pa
set_option linter.unusedVariables false
set_option linter.unusedSimpArgs false
theorem str_size (xs : List Int) : (strOfNums xs).size = xs.length := by
  unfold strOfNums ByteArray.size
  simp
theorem str_append (xs ys : List Int) : strOfNums xs ++ strOfNums ys = strOfNums (xs ++ ys) := by
  apply ByteArray.ext
  rw [ByteArray.data_append]
  simp [strOfNums]
/-- A text is laid in memory. -/
theorem conv_str (xs : List Int) (h : ∀ x, x ∈ xs → 0 ≤ x ∧ x < 256) (w : World) : ∃ c w', (convert 9 22 (.string (strOfNums xs))).run Tryd.prog w = .ok (.slice (some ⟨w.heap.size, 0, none⟩) xs.length c) w' ∧ xs.length ≤ c ∧ Below w.heap.size w w' ∧ In w' (some ⟨w.heap.size, 0, none⟩) xs ∧ w'.heap.size = w.heap.size + 1 := by
  have hr := run_bytes_of_string (P := Tryd.prog) w 9 22 5 (strOfNums xs) Tryd.underlying9 Tryd.underlying22 Tryd.underlying5
  rw [str_size] at hr
  refine ⟨_, _, hr, grownCap_ge _ _ _ _, (Below.refl _ _).drew.alloc (Nat.le_refl _) _, .inr ⟨w.heap.size, 0, rfl, by simp, fun i hi => ?_⟩, by simp⟩
  have hx := h (xs.getD i 0) (by rw [List.getD_eq_getElem?_getD, List.getElem?_eq_getElem hi]; exact List.getElem_mem hi)
  have hcell : (bytesRow (strOfNums xs) (grownCap w xs.length 0 5))[i]? = some (.int .u8 (xs.getD i 0)) := by
    unfold bytesRow
    rw [Array.getElem?_append_left (by unfold strOfNums; simp; exact hi)]
    unfold strOfNums
    simp only [List.map_toArray, List.map_map, List.getElem?_toArray, List.getElem?_map, List.getElem?_eq_getElem hi, Option.map_some, Function.comp]
    rw [List.getD_eq_getElem?_getD, List.getElem?_eq_getElem hi] at hx ⊢
    simp only [Option.getD_some] at hx ⊢
    have : ((UInt8.ofNat (xs[i]).toNat).toNat : Int) = xs[i] := by
      rw [UInt8.toNat_ofNat']
      omega
    rw [this]
  rw [Nat.zero_add]
  rw [← hcell]
  generalize bytesRow (strOfNums xs) (grownCap w xs.length 0 5) = C
  generalize (C.size, C.size + 1) = fr
  have hh : (w.drew.alloc (.cells C 5 fr)).heap[w.heap.size]? = some (.cells C 5 fr) := by
    show (w.heap.push (.cells C 5 fr))[w.heap.size]? = _
    simp
  unfold World.cell?
  show (match (w.drew.alloc (.cells C 5 fr)).heap[w.heap.size]? with | some (.cells c _ _) => c[i]? | _ => none) = C[i]?
  rw [hh]
end Go.Proofs.YtocbbekciphjgaaDoor.Sc
