/- A parser of a text, as the thin package starts it: the walks. -/
import Derived.Test.YtocbbekciphjgaaDoorPaA
namespace Go.Proofs.YtocbbekciphjgaaDoor.Pa
open Go.RowKit
set_option linter.unusedVariables false
set_option linter.unusedSimpArgs false
/-- A row of noughts of the call's own. -/
def Own (W : World) (n : Nat) (v : Value) (w : World) : Prop := ∃ b, v = .slice (some ⟨b, 0, none⟩) 0 n ∧ W.heap.size ≤ b ∧ Bk w b 5 (zeros n)
theorem Own.kp {W w w' : World} {n p : Nat} {v : Value} (h : Own W n v w) (hk : Kp [p] w w') (hp : p < W.heap.size) : Own W n v w' := by
  obtain ⟨b, e, h1, h2⟩ := h
  exact ⟨b, e, h1, h2.kp hk (by simp; omega)⟩
/-- A parser in its first state. -/
def First (p : Nat) (W : World) (w : World) : Prop := ∃ r q, Own W 512 r w ∧ Own W 1536 q w ∧ Bk w p 120 (pInit r q).toList
theorem First.alloc {p : Nat} {W w : World} (h : First p W w) (o : Obj) : First p W (w.alloc o) := by
  obtain ⟨r, q, ⟨b1, e1, k1, m1⟩, ⟨b2, e2, k2, m2⟩, m⟩ := h
  exact ⟨r, q, ⟨b1, e1, k1, m1.alloc o⟩, ⟨b2, e2, k2, m2.alloc o⟩, m.alloc o⟩
def Si (p : Nat) (W : World) : Nat → Value → World → Prop
  | 0, v, _ => v = .pointer (some ⟨p, 0, none⟩)
  | 1, v, w => Own W 512 v w
  | 2, v, w => Own W 1536 v w
  | 3, v, w => ∃ r q, v = .agg (pInit r q) ∧ Own W 512 r w ∧ Own W 1536 q w
  | 4, v, _ => v = .pointer (some ⟨p, 0, none⟩)
  | _, _, _ => True
theorem si_mono {p : Nat} {W : World} (hp : p < W.heap.size) {i : Nat} {v : Value} {w1 w2 : World} (hk : Kp [p] w1 w2) (h : Si p W i v w1) : Si p W i v w2 := by
  unfold Si at h ⊢
  split at h
  · exact h
  · exact h.kp hk hp
  · exact h.kp hk hp
  · obtain ⟨r, q, e, h1, h2⟩ := h
    exact ⟨r, q, e, h1.kp hk hp, h2.kp hk hp⟩
  · exact h
  · exact h
theorem store_p {w : World} {p : Nat} {cur : List Value} (a b : Option Addr) (n1 n2 c1 c2 : Nat) (h : Bk w p 120 cur) (hl : cur.length = 52) :
    (Instr.storeAt 120 (.pointer (some ⟨p, 0, none⟩)) (.agg (pInit (.slice a n1 c1) (.slice b n2 c2)))).run Tryd.prog w = .ok () (w.setCells p 0 (pInit (.slice a n1 c1) (.slice b n2 c2)).toList) ∧
    Bk (w.setCells p 0 (pInit (.slice a n1 c1) (.slice b n2 c2)).toList) p 120 (pInit (.slice a n1 c1) (.slice b n2 c2)).toList := by
  have hs := pInit_size (.slice a n1 c1) (.slice b n2 c2)
  have h1 := pInit_one a b n1 n2 c1 c2
  have ht : w.there p 0 52 := fun j hj => by
    rw [Nat.zero_add, (h.cell j).1, (h.cell j).2, List.getElem?_eq_getElem (by omega)]
    exact ⟨rfl, rfl⟩
  refine ⟨?_, ?_⟩
  · generalize pInit (.slice a n1 c1) (.slice b n2 c2) = X at *
    exact run_storeAt_mid (P := Tryd.prog) w p 0 120 X (by rw [hs]; exact ht) (by rw [hs]; exact infoP) h1
  · have := Bk.setCells (pInit (.slice a n1 c1) (.slice b n2 c2)).toList 0 cur w h (by rw [Array.length_toList, hs]; omega)
    generalize pInit (.slice a n1 c1) (.slice b n2 c2) = X at *
    have e : splice cur 0 X.toList = X.toList := by
      unfold splice
      rw [List.drop_eq_nil_of_le (by rw [show X.toList.length = X.size from Array.length_toList]; omega)]
      simp
    rw [e] at this
    exact this
set_option maxHeartbeats 2000000 in
set_option maxRecDepth 100000 in
theorem init_any (p : Nat) (cur : List Value) (w : World) (h : Bk w p 120 cur) (hl : cur.length = 52) :
    Calls Tryd.prog 98 #[.pointer (some ⟨p, 0, none⟩)] w fun e w' => e = .returned (.bool true) ∧ First p w w' ∧ Kp [p] w w' := by
  have hp := h.lt
  have H := Lib.hid h
  clear h
  go_enter Tryd.func98, Tryd.ntmps98
  go_wp2_with fail
  refine Sp.region_specs_l (by kernel_rfl) _ (by kernel_rfl) (by kernel_rfl) (by kernel_rfl) rfl (by kernel_rfl) (Si p w) (fun L w' => Kp [p] w w' ∧ (L 5 = false → Bk w' p 120 cur) ∧ (L 5 = true → First p w w')) (fun w1 w2 => Kp [p] w1 w2) ⟨(Kp.refl _ _).drew, fun _ => H.out, fun h => by cases h⟩ (fun i v w1 w2 hk h => si_mono hp hk h) ?_ ?_
  · clear H
    intro i hi L a w1 hL F hI
    have hcases : i = 0 ∨ i = 1 ∨ i = 2 ∨ i = 3 ∨ i = 4 ∨ i = 5 := by have hi' : i < 6 := hi; omega
    rcases hcases with rfl | rfl | rfl | rfl | rfl | rfl
    · have d0 : a.tmps.getD 0 undef = .pointer (some ⟨p, 0, none⟩) := F.out 0 (by kernel_rfl)
      exact Sp.sp_value rfl (Sp.wanted_none rfl) (v := .pointer (some ⟨p, 0, none⟩)) (w' := w1) (by simp [execOp, Act.eval, d0, Sp.gd d0, go_sem]) ⟨hI.1, fun h => hI.2.1 (by simpa using h), fun h => hI.2.2 (by simpa using h)⟩ (Kp.refl _ _) rfl
    · refine Sp.sp_value rfl (Sp.wanted_none rfl) (v := .slice (some ⟨w1.heap.size, 0, none⟩) 0 512) (w' := w1.alloc (.cells (zeros 512).toArray 5)) (by have : (Instr.makeSlice 22 (.int .i64 0) (.int .i64 512)).run Tryd.prog w1 = _ := mk_any 512 (by omega) w1; simp [execOp, Act.eval, this, go_sem]) ⟨hI.1.alloc _, fun h => (hI.2.1 (by simpa using h)).alloc _, fun h => (hI.2.2 (by simpa using h)).alloc _⟩ (Kp.mono ((Kp.refl [] w1).alloc _) (by simp)) ⟨_, rfl, hI.1.size, Bk.new _ _ _⟩
    · refine Sp.sp_value rfl (Sp.wanted_none rfl) (v := .slice (some ⟨w1.heap.size, 0, none⟩) 0 1536) (w' := w1.alloc (.cells (zeros 1536).toArray 5)) (by have : (Instr.makeSlice 22 (.int .i64 0) (.int .i64 1536)).run Tryd.prog w1 = _ := mk_any 1536 (by omega) w1; simp [execOp, Act.eval, this, go_sem]) ⟨hI.1.alloc _, fun h => (hI.2.1 (by simpa using h)).alloc _, fun h => (hI.2.2 (by simpa using h)).alloc _⟩ (Kp.mono ((Kp.refl [] w1).alloc _) (by simp)) ⟨_, rfl, hI.1.size, Bk.new _ _ _⟩
    · have d4 := F.val 1 4 (by kernel_rfl) (by rfl)
      have d5 := F.val 2 5 (by kernel_rfl) (by rfl)
      obtain ⟨b1, e1, k1, m1⟩ := d4
      obtain ⟨b2, e2, k2, m2⟩ := d5
      have hb := bld (some ⟨b1, 0, none⟩) (some ⟨b2, 0, none⟩) 0 0 512 1536 w1
      exact Sp.sp_value rfl (Sp.wanted_none rfl) (v := .agg (pInit (.slice (some ⟨b1, 0, none⟩) 0 512) (.slice (some ⟨b2, 0, none⟩) 0 1536))) (w' := w1) (by have g1 := Sp.gd e1; have g2 := Sp.gd e2; simp [execOp, Act.eval, g1, g2, hb]) ⟨hI.1, fun h => hI.2.1 (by simpa using h), fun h => hI.2.2 (by simpa using h)⟩ (Kp.refl _ _) ⟨_, _, rfl, ⟨b1, rfl, k1, m1⟩, ⟨b2, rfl, k2, m2⟩⟩
    · have d3 : a.tmps.getD 3 undef = .pointer (some ⟨p, 0, none⟩) := F.val 0 3 (by kernel_rfl) (by rfl)
      exact Sp.sp_value rfl (Sp.wanted_none rfl) (v := .pointer (some ⟨p, 0, none⟩)) (w' := w1) (by simp [execOp, Act.eval, d3, Sp.gd d3, go_sem]) ⟨hI.1, fun h => hI.2.1 (by simpa using h), fun h => hI.2.2 (by simpa using h)⟩ (Kp.refl _ _) rfl
    · have d7 : a.tmps.getD 7 undef = .pointer (some ⟨p, 0, none⟩) := F.val 4 7 (by kernel_rfl) (by rfl)
      have d6 := F.val 3 6 (by kernel_rfl) (by rfl)
      obtain ⟨r, q, e6, o1, o2⟩ := d6
      obtain ⟨b1, rfl, k1, m1⟩ := o1
      obtain ⟨b2, rfl, k2, m2⟩ := o2
      have hcur := hI.2.1 hL
      have hst := store_p (some ⟨b1, 0, none⟩) (some ⟨b2, 0, none⟩) 0 0 512 1536 hcur hl
      generalize hX : pInit (.slice (some ⟨b1, 0, none⟩) 0 512) (.slice (some ⟨b2, 0, none⟩) 0 1536) = X at hst e6
      generalize hW : w1.setCells p 0 X.toList = W2 at hst
      have g6 := Sp.gd e6
      have g7 := Sp.gd d7
      have hkp : Kp [p] w1 W2 := by rw [← hW]; exact Kp.setCells p (by simp) _ _ _ (Kp.refl _ _)
      have hst1 := hst.1
      exact Sp.sp_store rfl (Sp.wanted_none rfl) (w' := W2) (by simp [execOp, Act.eval, g6, g7, hst1]) ⟨hI.1.trans hkp, fun h => by simp at h, fun _ => ⟨_, _, ⟨b1, rfl, k1, m1.kp hkp (by simp; omega)⟩, ⟨b2, rfl, k2, m2.kp hkp (by simp; omega)⟩, by rw [hX]; exact hst.2⟩⟩ hkp trivial
  · intro val L w1 hall hI hS
    obtain ⟨hK, -, hF⟩ := hI
    have hF2 := hF (hall 5 (by decide))
    simp only [Sp.setAll, List.setIfInBounds_toArray, List.set_cons_zero, List.set_cons_succ]
    clear hS hF hall
    have HF := Lib.hid hF2
    have HK := Lib.hid hK
    clear hF2 hK
    go_wp2_with fail
    go_ret
    exact ⟨rfl, HF.out, HK.out⟩
end Go.Proofs.YtocbbekciphjgaaDoor.Pa
