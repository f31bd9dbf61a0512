/- ScD: parts of the proof, one behind another. -/
import Derived.Test.YtocbbekciphjgaaDoorMz14
/- ScD -/
/- The scanner says that it found a fault (yaml_parser_set_scanner_error): the walk. -/
namespace Go.Proofs.YtocbbekciphjgaaDoor.Sc
open Go.RowKit Go.Proofs.YtocbbekciphjgaaDoor.Rdp Go.Proofs.YtocbbekciphjgaaDoor.Pa
set_option linter.unusedVariables false
set_option linter.unusedSimpArgs false
/-- The cells that tell of a fault. -/
structure Cells (L : List Value) : Prop where
  len : L.length = 52
  c0 : ∃ z, L[0]? = some (.int .i64 z)
  c1 : ∃ z, L[1]? = some z
  c2 : ∃ z, L[2]? = some (.int .i64 z)
  c3 : ∃ z, L[3]? = some (.int .i64 z)
  c4 : ∃ z, L[4]? = some (.int .i64 z)
  c5 : ∃ z, L[5]? = some (.int .i64 z)
  c6 : ∃ z, L[6]? = some (.int .i64 z)
  c7 : ∃ z, L[7]? = some z
  c8 : ∃ z, L[8]? = some (.int .i64 z)
  c9 : ∃ z, L[9]? = some (.int .i64 z)
  c10 : ∃ z, L[10]? = some (.int .i64 z)
theorem told_cells (a m : ByteArray) (s0 s1 s2 y0 y1 y2 : Int) (L : List Value) (hc : Cells L) : Cells (((((((((L.set 0 (.int .i64 3)).set 7 (.string a)).set 8 (.int .i64 s0)).set 9 (.int .i64 s1)).set 10 (.int .i64 s2)).set 1 (.string m)).set 4 (.int .i64 y0)).set 5 (.int .i64 y1)).set 6 (.int .i64 y2)) ∧ (((((((((L.set 0 (.int .i64 3)).set 7 (.string a)).set 8 (.int .i64 s0)).set 9 (.int .i64 s1)).set 10 (.int .i64 s2)).set 1 (.string m)).set 4 (.int .i64 y0)).set 5 (.int .i64 y1)).set 6 (.int .i64 y2))[0]? = some (.int .i64 3) := by
  have hpl := hc.len
  obtain ⟨z2, e2⟩ := hc.c2
  obtain ⟨z3, e3⟩ := hc.c3
  have a0 : (((((((((L.set 0 (.int .i64 3)).set 7 (.string a)).set 8 (.int .i64 s0)).set 9 (.int .i64 s1)).set 10 (.int .i64 s2)).set 1 (.string m)).set 4 (.int .i64 y0)).set 5 (.int .i64 y1)).set 6 (.int .i64 y2))[0]? = some (.int .i64 3) := by rw [lset_ne (by omega), lset_ne (by omega), lset_ne (by omega), lset_ne (by omega), lset_ne (by omega), lset_ne (by omega), lset_ne (by omega), lset_ne (by omega), lset_at (by simp [hpl])]
  have a1 : (((((((((L.set 0 (.int .i64 3)).set 7 (.string a)).set 8 (.int .i64 s0)).set 9 (.int .i64 s1)).set 10 (.int .i64 s2)).set 1 (.string m)).set 4 (.int .i64 y0)).set 5 (.int .i64 y1)).set 6 (.int .i64 y2))[1]? = some (.string m) := by rw [lset_ne (by omega), lset_ne (by omega), lset_ne (by omega), lset_at (by simp [hpl])]
  have a2 : (((((((((L.set 0 (.int .i64 3)).set 7 (.string a)).set 8 (.int .i64 s0)).set 9 (.int .i64 s1)).set 10 (.int .i64 s2)).set 1 (.string m)).set 4 (.int .i64 y0)).set 5 (.int .i64 y1)).set 6 (.int .i64 y2))[2]? = L[2]? := by rw [lset_ne (by omega), lset_ne (by omega), lset_ne (by omega), lset_ne (by omega), lset_ne (by omega), lset_ne (by omega), lset_ne (by omega), lset_ne (by omega), lset_ne (by omega)]
  have a3 : (((((((((L.set 0 (.int .i64 3)).set 7 (.string a)).set 8 (.int .i64 s0)).set 9 (.int .i64 s1)).set 10 (.int .i64 s2)).set 1 (.string m)).set 4 (.int .i64 y0)).set 5 (.int .i64 y1)).set 6 (.int .i64 y2))[3]? = L[3]? := by rw [lset_ne (by omega), lset_ne (by omega), lset_ne (by omega), lset_ne (by omega), lset_ne (by omega), lset_ne (by omega), lset_ne (by omega), lset_ne (by omega), lset_ne (by omega)]
  have a4 : (((((((((L.set 0 (.int .i64 3)).set 7 (.string a)).set 8 (.int .i64 s0)).set 9 (.int .i64 s1)).set 10 (.int .i64 s2)).set 1 (.string m)).set 4 (.int .i64 y0)).set 5 (.int .i64 y1)).set 6 (.int .i64 y2))[4]? = some (.int .i64 y0) := by rw [lset_ne (by omega), lset_ne (by omega), lset_at (by simp [hpl])]
  have a5 : (((((((((L.set 0 (.int .i64 3)).set 7 (.string a)).set 8 (.int .i64 s0)).set 9 (.int .i64 s1)).set 10 (.int .i64 s2)).set 1 (.string m)).set 4 (.int .i64 y0)).set 5 (.int .i64 y1)).set 6 (.int .i64 y2))[5]? = some (.int .i64 y1) := by rw [lset_ne (by omega), lset_at (by simp [hpl])]
  have a6 : (((((((((L.set 0 (.int .i64 3)).set 7 (.string a)).set 8 (.int .i64 s0)).set 9 (.int .i64 s1)).set 10 (.int .i64 s2)).set 1 (.string m)).set 4 (.int .i64 y0)).set 5 (.int .i64 y1)).set 6 (.int .i64 y2))[6]? = some (.int .i64 y2) := by rw [lset_at (by simp [hpl])]
  have a7 : (((((((((L.set 0 (.int .i64 3)).set 7 (.string a)).set 8 (.int .i64 s0)).set 9 (.int .i64 s1)).set 10 (.int .i64 s2)).set 1 (.string m)).set 4 (.int .i64 y0)).set 5 (.int .i64 y1)).set 6 (.int .i64 y2))[7]? = some (.string a) := by rw [lset_ne (by omega), lset_ne (by omega), lset_ne (by omega), lset_ne (by omega), lset_ne (by omega), lset_ne (by omega), lset_ne (by omega), lset_at (by simp [hpl])]
  have a8 : (((((((((L.set 0 (.int .i64 3)).set 7 (.string a)).set 8 (.int .i64 s0)).set 9 (.int .i64 s1)).set 10 (.int .i64 s2)).set 1 (.string m)).set 4 (.int .i64 y0)).set 5 (.int .i64 y1)).set 6 (.int .i64 y2))[8]? = some (.int .i64 s0) := by rw [lset_ne (by omega), lset_ne (by omega), lset_ne (by omega), lset_ne (by omega), lset_ne (by omega), lset_ne (by omega), lset_at (by simp [hpl])]
  have a9 : (((((((((L.set 0 (.int .i64 3)).set 7 (.string a)).set 8 (.int .i64 s0)).set 9 (.int .i64 s1)).set 10 (.int .i64 s2)).set 1 (.string m)).set 4 (.int .i64 y0)).set 5 (.int .i64 y1)).set 6 (.int .i64 y2))[9]? = some (.int .i64 s1) := by rw [lset_ne (by omega), lset_ne (by omega), lset_ne (by omega), lset_ne (by omega), lset_ne (by omega), lset_at (by simp [hpl])]
  have a10 : (((((((((L.set 0 (.int .i64 3)).set 7 (.string a)).set 8 (.int .i64 s0)).set 9 (.int .i64 s1)).set 10 (.int .i64 s2)).set 1 (.string m)).set 4 (.int .i64 y0)).set 5 (.int .i64 y1)).set 6 (.int .i64 y2))[10]? = some (.int .i64 s2) := by rw [lset_ne (by omega), lset_ne (by omega), lset_ne (by omega), lset_ne (by omega), lset_at (by simp [hpl])]
  exact ⟨⟨by simp only [List.length_set]; exact hpl, ⟨_, a0⟩, ⟨_, a1⟩, ⟨_, a2.trans e2⟩, ⟨_, a3.trans e3⟩, ⟨_, a4⟩, ⟨_, a5⟩, ⟨_, a6⟩, ⟨_, a7⟩, ⟨_, a8⟩, ⟨_, a9⟩, ⟨_, a10⟩⟩, a0⟩
set_option maxHeartbeats 4000000 in
set_option maxRecDepth 100000 in
theorem fault_any (p : Nat) (a m : ByteArray) (s0 s1 s2 y0 y1 y2 : Int) (L : List Value) (w : World) (h : Bk w p 120 L) (hc : Cells L) (h24 : L[24]? = some (.int .i64 y0)) (h25 : L[25]? = some (.int .i64 y1)) (h26 : L[26]? = some (.int .i64 y2)) :
    Calls Tryd.prog 105 #[.pointer (some ⟨p, 0, none⟩), .string a, .agg #[.int .i64 s0, .int .i64 s1,   .int .i64 s2], .string m] w fun e w' => e = .returned (.bool false) ∧ ∃ L', Bk w' p 120 L' ∧ Cells L' ∧ L'[0]? = some (.int .i64 3) ∧ Kp [p] w w' := by
  have hpl := hc.len
  obtain ⟨z0, e0⟩ := hc.c0
  obtain ⟨z1, e1⟩ := hc.c1
  obtain ⟨z2, e2⟩ := hc.c2
  obtain ⟨z3, e3⟩ := hc.c3
  obtain ⟨z4, e4⟩ := hc.c4
  obtain ⟨z5, e5⟩ := hc.c5
  obtain ⟨z6, e6⟩ := hc.c6
  obtain ⟨z7, e7⟩ := hc.c7
  obtain ⟨z8, e8⟩ := hc.c8
  obtain ⟨z9, e9⟩ := hc.c9
  obtain ⟨z10, e10⟩ := hc.c10
  have hlt := h.lt
  obtain ⟨wa, HWA⟩ : ∃ wa : World, Hid (w.alloc (.cells #[.int .i64 s0, .int .i64 s1, .int .i64 s2] 74) = wa) := ⟨_, rfl⟩
  have hb : Bk wa p 120 L := by rw [← HWA.out]; exact h.alloc _
  have q0 : (w.alloc (.cells #[.int .i64 s0, .int .i64 s1, .int .i64 s2] 74)).cell? ⟨w.heap.size, 0, none⟩ = some (.int .i64 s0) := by simp
  have q1 : (w.alloc (.cells #[.int .i64 s0, .int .i64 s1, .int .i64 s2] 74)).cell? ⟨w.heap.size, 1, none⟩ = some (.int .i64 s1) := by simp
  have q2 : (w.alloc (.cells #[.int .i64 s0, .int .i64 s1, .int .i64 s2] 74)).cell? ⟨w.heap.size, 2, none⟩ = some (.int .i64 s2) := by simp
  rw [HWA.out] at q0 q1 q2
  have hk : Kp [p] w wa := by rw [← HWA.out]; exact (Kp.refl _ _).alloc _
  obtain ⟨c0, f0⟩ := at_ hb 0 e0
  obtain ⟨c1, f1⟩ := at_ hb 1 e1
  obtain ⟨c4, f4⟩ := at_ hb 4 e4
  obtain ⟨c5, f5⟩ := at_ hb 5 e5
  obtain ⟨c6, f6⟩ := at_ hb 6 e6
  obtain ⟨c7, f7⟩ := at_ hb 7 e7
  obtain ⟨c8, f8⟩ := at_ hb 8 e8
  obtain ⟨c9, f9⟩ := at_ hb 9 e9
  obtain ⟨c10, f10⟩ := at_ hb 10 e10
  obtain ⟨c24, f24⟩ := at_ hb 24 h24
  obtain ⟨c25, f25⟩ := at_ hb 25 h25
  obtain ⟨c26, f26⟩ := at_ hb 26 h26
  have n1 : ¬ p = w.heap.size := by omega
  have n2 : ¬ w.heap.size = p := by omega
  have HB := Lib.hid hb
  have HK := Lib.hid hk
  clear hb hk h
  go_enter Tryd.func105, Tryd.ntmps105
  go_upto_region 1 with fail
  rw [HWA.out]
  go_wp2_with fail
  go_ret
  have hbb := (((((((((HB.out.set 0 (.int .i64 3)).set 7 (.string a)).set 8 (.int .i64 s0)).set 9 (.int .i64 s1)).set 10 (.int .i64 s2)).set 1 (.string m)).set 4 (.int .i64 y0)).set 5 (.int .i64 y1)).set 6 (.int .i64 y2))
  have hkk := (((((((((HK.out.setCell p 0 (.int .i64 3) (by simp)).setCell p 7 (.string a) (by simp)).setCell p 8 (.int .i64 s0) (by simp)).setCell p 9 (.int .i64 s1) (by simp)).setCell p 10 (.int .i64 s2) (by simp)).setCell p 1 (.string m) (by simp)).setCell p 4 (.int .i64 y0) (by simp)).setCell p 5 (.int .i64 y1) (by simp)).setCell p 6 (.int .i64 y2) (by simp))
  have hcc := told_cells a m s0 s1 s2 y0 y1 y2 L hc
  refine ⟨rfl, ?_⟩
  exact ⟨_, hbb, hcc.1, hcc.2, hkk⟩
end Go.Proofs.YtocbbekciphjgaaDoor.Sc
