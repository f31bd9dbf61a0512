/- ScF, SpM: parts of the proof, one behind another. -/
import Derived.Handy
import Derived.Test.YtocbbekciphjgaaDoorMz15
/- ScF -/
/- A parser's mark, and its fault (zzMark, ZzParserFault, impl.mark, impl.kind): the walks. Printed by genScF.py. -/
namespace Go.Proofs.YtocbbekciphjgaaDoor.Sc
open Go.RowKit Go.Proofs.YtocbbekciphjgaaDoor.Rdp Go.Proofs.YtocbbekciphjgaaDoor.Pa
set_option linter.unusedVariables false
set_option linter.unusedSimpArgs false
set_option maxHeartbeats 1000000 in
theorem zmark_any (s0 s1 s2 : Int) (w : World) : Calls Tryd.prog 67 #[.agg #[.int .i64 s0, .int .i64 s1, .int .i64 s2]] w fun e w' => e = .returned (.agg #[.int .i64 s0, .int .i64 s1, .int .i64 s2]) ∧ Below w.heap.size w w' := by
  go_enter Tryd.func67, Tryd.ntmps67
  go_wp2_with fail
  go_returns
  exact ⟨rfl, ((Below.refl _ _).alloc (Nat.le_refl _) _).alloc (by simp) _⟩
set_option maxHeartbeats 1000000 in
theorem mark_any (s0 s1 s2 : Int) (w : World) : Calls Tryd.prog 36 #[.agg #[.int .i64 s0, .int .i64 s1, .int .i64 s2]] w fun e w' => e = .returned (.agg #[.int .i64 s0, .int .i64 s1, .int .i64 s2]) ∧ Below w.heap.size w w' := by
  go_enter Tryd.func36, Tryd.ntmps36
  go_wp2_with fail
  go_returns
  exact ⟨rfl, ((Below.refl _ _).alloc (Nat.le_refl _) _).alloc (by simp) _⟩
set_option maxHeartbeats 1000000 in
theorem kind_any (w : World) : Calls Tryd.prog 66 #[.int .i64 3] w fun e w' => e = .returned (.int .i64 2) ∧ w' = w := by
  go_enter Tryd.func66, Tryd.ntmps66
  go_wp2_with fail
  go_ret
  exact ⟨rfl, rfl⟩
/-- A block is written anew. -/
theorem store_all {w : World} {b : Nat} {ty : TypeId} {cur : List Value} (new : List Value) (h : Bk w b ty cur) (hl : cur.length = new.length) (hi : (Tryd.prog.info? ty).map (·.size) = some new.length) (h1 : new.toArray.all (·.oneCell') = true) :
    (Instr.storeAt ty (.pointer (some ⟨b, 0, none⟩)) (.agg new.toArray)).run Tryd.prog w = .ok () (w.setCells b 0 new) ∧ Bk (w.setCells b 0 new) b ty new := by
  have ht : w.there b 0 new.length := fun j hj => by
    rw [Nat.zero_add, (h.cell j).1, (h.cell j).2, List.getElem?_eq_getElem (by omega)]
    exact ⟨rfl, rfl⟩
  refine ⟨?_, ?_⟩
  · exact run_storeAt_mid (P := Tryd.prog) w b 0 ty new.toArray (by rw [List.size_toArray]; exact ht) (by rw [List.size_toArray]; exact hi) h1
  · have := Bk.setCells new 0 cur w h (by omega)
    have e : splice cur 0 new = new := by
      unfold splice
      rw [List.drop_eq_nil_of_le (by omega)]
      simp
    rw [e] at this
    exact this
/-- The numbers of a mark. -/
def tri (a b c : Int) : List Value := [.int .i64 a, .int .i64 b, .int .i64 c]
/-- In the midst of it. -/
structure Mid65 (p : Nat) (L : List Value) (z0 z2 z3 y0 y1 y2 x0 x1 x2 : Int) (w0 w : World) : Prop where
  pb : Bk w p 120 L
  lt : p < w0.heap.size
  bel : Below w0.heap.size w0 w
  b5 : ∃ a b c, Bk w w0.heap.size 70 (tri a b c)
  b6 : ∃ a b c, Bk w (w0.heap.size + 1) 70 (tri a b c)
  a0 : L[0]? = some (.int .i64 z0)
  a2 : L[2]? = some (.int .i64 z2)
  a3 : L[3]? = some (.int .i64 z3)
  a4 : L[4]? = some (.int .i64 y0)
  a5 : L[5]? = some (.int .i64 y1)
  a6 : L[6]? = some (.int .i64 y2)
  a8 : L[8]? = some (.int .i64 x0)
  a9 : L[9]? = some (.int .i64 x1)
  a10 : L[10]? = some (.int .i64 x2)
theorem Mid65.q0 {p : Nat} {L : List Value} {z0 z2 z3 y0 y1 y2 x0 x1 x2 : Int} {w0 w : World} (h : Mid65 p L z0 z2 z3 y0 y1 y2 x0 x1 x2 w0 w) : w.cell? ⟨p, 0, none⟩ = some (.int .i64 z0) := (at_ h.pb 0 h.a0).1
theorem Mid65.q2 {p : Nat} {L : List Value} {z0 z2 z3 y0 y1 y2 x0 x1 x2 : Int} {w0 w : World} (h : Mid65 p L z0 z2 z3 y0 y1 y2 x0 x1 x2 w0 w) : w.cell? ⟨p, 2, none⟩ = some (.int .i64 z2) := (at_ h.pb 2 h.a2).1
theorem Mid65.q3 {p : Nat} {L : List Value} {z0 z2 z3 y0 y1 y2 x0 x1 x2 : Int} {w0 w : World} (h : Mid65 p L z0 z2 z3 y0 y1 y2 x0 x1 x2 w0 w) : w.cell? ⟨p, 3, none⟩ = some (.int .i64 z3) := (at_ h.pb 3 h.a3).1
theorem Mid65.q4 {p : Nat} {L : List Value} {z0 z2 z3 y0 y1 y2 x0 x1 x2 : Int} {w0 w : World} (h : Mid65 p L z0 z2 z3 y0 y1 y2 x0 x1 x2 w0 w) : w.cell? ⟨p, 4, none⟩ = some (.int .i64 y0) := (at_ h.pb 4 h.a4).1
theorem Mid65.q5 {p : Nat} {L : List Value} {z0 z2 z3 y0 y1 y2 x0 x1 x2 : Int} {w0 w : World} (h : Mid65 p L z0 z2 z3 y0 y1 y2 x0 x1 x2 w0 w) : w.cell? ⟨p, 5, none⟩ = some (.int .i64 y1) := (at_ h.pb 5 h.a5).1
theorem Mid65.q6 {p : Nat} {L : List Value} {z0 z2 z3 y0 y1 y2 x0 x1 x2 : Int} {w0 w : World} (h : Mid65 p L z0 z2 z3 y0 y1 y2 x0 x1 x2 w0 w) : w.cell? ⟨p, 6, none⟩ = some (.int .i64 y2) := (at_ h.pb 6 h.a6).1
theorem Mid65.q8 {p : Nat} {L : List Value} {z0 z2 z3 y0 y1 y2 x0 x1 x2 : Int} {w0 w : World} (h : Mid65 p L z0 z2 z3 y0 y1 y2 x0 x1 x2 w0 w) : w.cell? ⟨p, 8, none⟩ = some (.int .i64 x0) := (at_ h.pb 8 h.a8).1
theorem Mid65.q9 {p : Nat} {L : List Value} {z0 z2 z3 y0 y1 y2 x0 x1 x2 : Int} {w0 w : World} (h : Mid65 p L z0 z2 z3 y0 y1 y2 x0 x1 x2 w0 w) : w.cell? ⟨p, 9, none⟩ = some (.int .i64 x1) := (at_ h.pb 9 h.a9).1
theorem Mid65.q10 {p : Nat} {L : List Value} {z0 z2 z3 y0 y1 y2 x0 x1 x2 : Int} {w0 w : World} (h : Mid65 p L z0 z2 z3 y0 y1 y2 x0 x1 x2 w0 w) : w.cell? ⟨p, 10, none⟩ = some (.int .i64 x2) := (at_ h.pb 10 h.a10).1
theorem Mid65.below {p : Nat} {L : List Value} {z0 z2 z3 y0 y1 y2 x0 x1 x2 : Int} {w0 w w' : World} (h : Mid65 p L z0 z2 z3 y0 y1 y2 x0 x1 x2 w0 w) (hb : Below w.heap.size w w') : Mid65 p L z0 z2 z3 y0 y1 y2 x0 x1 x2 w0 w' := by
  obtain ⟨a, b, c, h5⟩ := h.b5
  obtain ⟨a', b', c', h6⟩ := h.b6
  have hk : Kp [] w w' := Kp.of_below hb
  exact ⟨h.pb.kp hk (by simp), h.lt, h.bel.trans (hb.mono h.bel.size), ⟨a, b, c, h5.kp hk (by simp)⟩, ⟨a', b', c', h6.kp hk (by simp)⟩, h.a0, h.a2, h.a3, h.a4, h.a5, h.a6, h.a8, h.a9, h.a10⟩
theorem Mid65.store5 {p : Nat} {L : List Value} {z0 z2 z3 y0 y1 y2 x0 x1 x2 : Int} {w0 w : World} (h : Mid65 p L z0 z2 z3 y0 y1 y2 x0 x1 x2 w0 w) (a b c : Int) :
    (Instr.storeAt 70 (.pointer (some ⟨w0.heap.size, 0, none⟩)) (.agg #[.int .i64 a, .int .i64 b, .int .i64 c])).run Tryd.prog w = .ok () (w.setCells w0.heap.size 0 (tri a b c)) ∧ Mid65 p L z0 z2 z3 y0 y1 y2 x0 x1 x2 w0 (w.setCells w0.heap.size 0 (tri a b c)) := by
  obtain ⟨a1, b1, c1, h1⟩ := h.b5
  obtain ⟨a2, b2, c2, h2⟩ := h.b6
  have hlt := h.lt
  have hs := store_all (tri a b c) h1 rfl (by kernel_rfl) (by kernel_rfl)
  have hk : Kp [w0.heap.size] w (w.setCells w0.heap.size 0 (tri a b c)) := Kp.setCells _ (by simp) _ _ _ (Kp.refl _ _)
  refine ⟨hs.1, h.pb.kp hk (by simp; omega), h.lt, h.bel.trans (hk.below h.bel.size (by simp)), ?_, ?_, h.a0, h.a2, h.a3, h.a4, h.a5, h.a6, h.a8, h.a9, h.a10⟩
  · exact ⟨_, _, _, hs.2⟩
  · exact ⟨_, _, _, h2.kp hk (by simp)⟩
theorem Mid65.store6 {p : Nat} {L : List Value} {z0 z2 z3 y0 y1 y2 x0 x1 x2 : Int} {w0 w : World} (h : Mid65 p L z0 z2 z3 y0 y1 y2 x0 x1 x2 w0 w) (a b c : Int) :
    (Instr.storeAt 70 (.pointer (some ⟨(w0.heap.size + 1), 0, none⟩)) (.agg #[.int .i64 a, .int .i64 b, .int .i64 c])).run Tryd.prog w = .ok () (w.setCells (w0.heap.size + 1) 0 (tri a b c)) ∧ Mid65 p L z0 z2 z3 y0 y1 y2 x0 x1 x2 w0 (w.setCells (w0.heap.size + 1) 0 (tri a b c)) := by
  obtain ⟨a1, b1, c1, h1⟩ := h.b6
  obtain ⟨a2, b2, c2, h2⟩ := h.b5
  have hlt := h.lt
  have hs := store_all (tri a b c) h1 rfl (by kernel_rfl) (by kernel_rfl)
  have hk : Kp [(w0.heap.size + 1)] w (w.setCells (w0.heap.size + 1) 0 (tri a b c)) := Kp.setCells _ (by simp) _ _ _ (Kp.refl _ _)
  refine ⟨hs.1, h.pb.kp hk (by simp; omega), h.lt, h.bel.trans (hk.below h.bel.size (by simp)), ?_, ?_, h.a0, h.a2, h.a3, h.a4, h.a5, h.a6, h.a8, h.a9, h.a10⟩
  · exact ⟨_, _, _, h2.kp hk (by simp)⟩
  · exact ⟨_, _, _, hs.2⟩
def Sf (p : Nat) (w0 : World) (z0 z2 z3 y0 y1 y2 x0 x1 x2 : Int) : Nat → Value → World → Prop
  | 0, v, _ => v = .pointer (some ⟨p, 0, none⟩)
  | 1, v, _ => v = .pointer (some ⟨p, 0, none⟩)
  | 2, v, _ => v = .pointer (some ⟨p, 0, none⟩)
  | 3, v, _ => v = .int .i64 z0
  | 4, v, _ => v = .pointer (some ⟨p, 0, none⟩)
  | 5, v, _ => v = .pointer (some ⟨p, 0, none⟩)
  | 6, v, _ => v = .pointer (some ⟨p, 2, none⟩)
  | 7, v, _ => v = .int .i64 z2
  | 8, v, _ => v = .pointer (some ⟨p, 0, none⟩)
  | 9, v, _ => v = .pointer (some ⟨p, 0, none⟩)
  | 10, v, _ => v = .pointer (some ⟨p, 3, none⟩)
  | 11, v, _ => v = .int .i64 z3
  | 12, v, _ => v = .pointer (some ⟨p, 0, none⟩)
  | 13, v, _ => v = .pointer (some ⟨p, 0, none⟩)
  | 14, v, _ => v = .pointer (some ⟨p, 4, none⟩)
  | 15, v, _ => v = .agg #[.int .i64 y0, .int .i64 y1, .int .i64 y2]
  | 16, v, _ => v = .agg #[.int .i64 y0, .int .i64 y1, .int .i64 y2]
  | 17, v, _ => v = .pointer (some ⟨p, 0, none⟩)
  | 18, v, _ => v = .pointer (some ⟨p, 0, none⟩)
  | 19, v, _ => v = .pointer (some ⟨p, 8, none⟩)
  | 20, v, _ => v = .agg #[.int .i64 x0, .int .i64 x1, .int .i64 x2]
  | 21, v, _ => v = .agg #[.int .i64 x0, .int .i64 x1, .int .i64 x2]
  | 22, v, _ => v = .int .i64 z0
  | 23, v, _ => v = .int .i64 z2
  | 24, v, _ => v = .int .i64 z3
  | _, _, _ => True
theorem Sf_mono (p : Nat) (w0 : World) (z0 z2 z3 y0 y1 y2 x0 x1 x2 : Int) (i : Nat) (v : Value) (w w' : World) (h : Sf p w0 z0 z2 z3 y0 y1 y2 x0 x1 x2 i v w) : Sf p w0 z0 z2 z3 y0 y1 y2 x0 x1 x2 i v w' := by
  unfold Sf at h ⊢
  split at h <;> exact h
set_option maxHeartbeats 2000000 in
set_option maxRecDepth 100000 in
theorem zfault_any (p : Nat) (L : List Value) (z0 : Int) (w0 : World) (h : Bk w0 p 120 L) (hc : Cells L) (h0 : L[0]? = some (.int .i64 z0)) :
    Calls Tryd.prog 65 #[.pointer (some ⟨p, 0, none⟩)] w0 fun e w' => (∃ z2 z3 a0 a1 a2 b0 b1 b2 : Int, e = .returned (.tuple #[.int .i64 z0, .int .i64 z2, .int .i64 z3, .agg #[.int .i64 a0, .int .i64 a1, .int .i64 a2], .agg #[.int .i64 b0, .int .i64 b1, .int .i64 b2]])) ∧ Below w0.heap.size w0 w' := by
  obtain ⟨z2, e2⟩ := hc.c2
  obtain ⟨z3, e3⟩ := hc.c3
  obtain ⟨y0, e4⟩ := hc.c4
  obtain ⟨y1, e5⟩ := hc.c5
  obtain ⟨y2, e6⟩ := hc.c6
  obtain ⟨x0, e8⟩ := hc.c8
  obtain ⟨x1, e9⟩ := hc.c9
  obtain ⟨x2, e10⟩ := hc.c10
  have hn5 : Bk (w0.alloc (.cells #[.int .i64 0, .int .i64 0, .int .i64 0] 70)) w0.heap.size 70 (tri 0 0 0) := Bk.new w0 (tri 0 0 0) 70
  have hm : Mid65 p L z0 z2 z3 y0 y1 y2 x0 x1 x2 w0 ((w0.alloc (.cells #[.int .i64 0, .int .i64 0, .int .i64 0] 70)).alloc (.cells #[.int .i64 0, .int .i64 0, .int .i64 0] 70)) := by
    refine ⟨(h.alloc _).alloc _, h.lt, ((Below.refl _ _).alloc (Nat.le_refl _) _).alloc (by simp) _, ⟨0, 0, 0, hn5.alloc _⟩, ⟨0, 0, 0, ?_⟩, h0, e2, e3, e4, e5, e6, e8, e9, e10⟩
    have := Bk.new (w0.alloc (.cells #[.int .i64 0, .int .i64 0, .int .i64 0] 70)) (tri 0 0 0) 70
    rw [show (w0.alloc (.cells #[.int .i64 0, .int .i64 0, .int .i64 0] 70)).heap.size = w0.heap.size + 1 by simp] at this
    exact this
  obtain ⟨wa, HWA⟩ : ∃ wa : World, Hid ((w0.alloc (.cells #[.int .i64 0, .int .i64 0, .int .i64 0] 70)).alloc (.cells #[.int .i64 0, .int .i64 0, .int .i64 0] 70) = wa) := ⟨_, rfl⟩
  rw [HWA.out] at hm
  have HM := Lib.hid hm
  clear hm h hc h0 e2 e3 e4 e5 e6 e8 e9 e10 hn5
  go_enter Tryd.func65, Tryd.ntmps65
  go_upto_region 1 with fail
  rw [HWA.out]
  refine Sp.region_specs (by kernel_rfl) _ (by kernel_rfl) (by kernel_rfl) (by kernel_rfl) rfl (by kernel_rfl) (Sf p w0 z0 z2 z3 y0 y1 y2 x0 x1 x2) (Mid65 p L z0 z2 z3 y0 y1 y2 x0 x1 x2 w0) (fun _ _ => True) (HM.out.below ⟨rfl, rfl, rfl, Nat.le_refl _, fun _ _ => rfl⟩) (fun i v w w' _ => Sf_mono p w0 z0 z2 z3 y0 y1 y2 x0 x1 x2 i v w w') ?_ ?_
  · skip
    intro i hi a w1 F hI
    have hcases : i = 0 ∨ i = 1 ∨ i = 2 ∨ i = 3 ∨ i = 4 ∨ i = 5 ∨ i = 6 ∨ i = 7 ∨ i = 8 ∨ i = 9 ∨ i = 10 ∨ i = 11 ∨ i = 12 ∨ i = 13 ∨ i = 14 ∨ i = 15 ∨ i = 16 ∨ i = 17 ∨ i = 18 ∨ i = 19 ∨ i = 20 ∨ i = 21 ∨ i = 22 ∨ i = 23 ∨ i = 24 ∨ i = 25 ∨ i = 26 := by have hi' : i < 27 := hi; omega
    rcases hcases with rfl | rfl | rfl | rfl | rfl | rfl | rfl | rfl | rfl | rfl | rfl | rfl | rfl | rfl | rfl | rfl | rfl | rfl | rfl | rfl | rfl | rfl | rfl | rfl | rfl | rfl | rfl
    · have d0 : a.tmps.getD 0 undef = .pointer (some ⟨p, 0, none⟩) := F.out 0 (by kernel_rfl)
      exact Sp.sp_value rfl (Sp.wanted_none rfl) (v := .pointer (some ⟨p, 0, none⟩)) (w' := w1) (by simp [execOp, Act.eval, d0, Sp.gd d0, go_sem]) hI trivial rfl
    · have d7 : a.tmps.getD 7 undef = .pointer (some ⟨p, 0, none⟩) := F.val 0 7 (by kernel_rfl) (by rfl)
      exact Sp.sp_value rfl (Sp.wanted_none rfl) (v := .pointer (some ⟨p, 0, none⟩)) (w' := w1) (by simp [execOp, Act.eval, d7, Sp.gd d7, go_sem]) hI trivial rfl
    · have d8 : a.tmps.getD 8 undef = .pointer (some ⟨p, 0, none⟩) := F.val 1 8 (by kernel_rfl) (by rfl)
      exact Sp.sp_value rfl (Sp.wanted_none rfl) (v := .pointer (some ⟨p, 0, none⟩)) (w' := w1) (by simp [execOp, Act.eval, d8, Sp.gd d8, go_sem]) hI trivial rfl
    · have d9 : a.tmps.getD 9 undef = .pointer (some ⟨p, 0, none⟩) := F.val 2 9 (by kernel_rfl) (by rfl)
      exact Sp.sp_value rfl (Sp.wanted_none rfl) (v := .int .i64 z0) (w' := w1) (by simp [execOp, Act.eval, d9, Sp.gd d9, hI.q0, go_sem]) hI trivial rfl
    · have d0 : a.tmps.getD 0 undef = .pointer (some ⟨p, 0, none⟩) := F.out 0 (by kernel_rfl)
      exact Sp.sp_value rfl (Sp.wanted_none rfl) (v := .pointer (some ⟨p, 0, none⟩)) (w' := w1) (by simp [execOp, Act.eval, d0, Sp.gd d0, go_sem]) hI trivial rfl
    · have d11 : a.tmps.getD 11 undef = .pointer (some ⟨p, 0, none⟩) := F.val 4 11 (by kernel_rfl) (by rfl)
      exact Sp.sp_value rfl (Sp.wanted_none rfl) (v := .pointer (some ⟨p, 0, none⟩)) (w' := w1) (by simp [execOp, Act.eval, d11, Sp.gd d11, go_sem]) hI trivial rfl
    · have d12 : a.tmps.getD 12 undef = .pointer (some ⟨p, 0, none⟩) := F.val 5 12 (by kernel_rfl) (by rfl)
      exact Sp.sp_value rfl (Sp.wanted_none rfl) (v := .pointer (some ⟨p, 2, none⟩)) (w' := w1) (by simp [execOp, Act.eval, d12, Sp.gd d12, go_sem]) hI trivial rfl
    · have d13 : a.tmps.getD 13 undef = .pointer (some ⟨p, 2, none⟩) := F.val 6 13 (by kernel_rfl) (by rfl)
      exact Sp.sp_value rfl (Sp.wanted_none rfl) (v := .int .i64 z2) (w' := w1) (by simp [execOp, Act.eval, d13, Sp.gd d13, hI.q2, go_sem]) hI trivial rfl
    · have d0 : a.tmps.getD 0 undef = .pointer (some ⟨p, 0, none⟩) := F.out 0 (by kernel_rfl)
      exact Sp.sp_value rfl (Sp.wanted_none rfl) (v := .pointer (some ⟨p, 0, none⟩)) (w' := w1) (by simp [execOp, Act.eval, d0, Sp.gd d0, go_sem]) hI trivial rfl
    · have d15 : a.tmps.getD 15 undef = .pointer (some ⟨p, 0, none⟩) := F.val 8 15 (by kernel_rfl) (by rfl)
      exact Sp.sp_value rfl (Sp.wanted_none rfl) (v := .pointer (some ⟨p, 0, none⟩)) (w' := w1) (by simp [execOp, Act.eval, d15, Sp.gd d15, go_sem]) hI trivial rfl
    · have d16 : a.tmps.getD 16 undef = .pointer (some ⟨p, 0, none⟩) := F.val 9 16 (by kernel_rfl) (by rfl)
      exact Sp.sp_value rfl (Sp.wanted_none rfl) (v := .pointer (some ⟨p, 3, none⟩)) (w' := w1) (by simp [execOp, Act.eval, d16, Sp.gd d16, go_sem]) hI trivial rfl
    · have d17 : a.tmps.getD 17 undef = .pointer (some ⟨p, 3, none⟩) := F.val 10 17 (by kernel_rfl) (by rfl)
      exact Sp.sp_value rfl (Sp.wanted_none rfl) (v := .int .i64 z3) (w' := w1) (by simp [execOp, Act.eval, d17, Sp.gd d17, hI.q3, go_sem]) hI trivial rfl
    · have d0 : a.tmps.getD 0 undef = .pointer (some ⟨p, 0, none⟩) := F.out 0 (by kernel_rfl)
      exact Sp.sp_value rfl (Sp.wanted_none rfl) (v := .pointer (some ⟨p, 0, none⟩)) (w' := w1) (by simp [execOp, Act.eval, d0, Sp.gd d0, go_sem]) hI trivial rfl
    · have d19 : a.tmps.getD 19 undef = .pointer (some ⟨p, 0, none⟩) := F.val 12 19 (by kernel_rfl) (by rfl)
      exact Sp.sp_value rfl (Sp.wanted_none rfl) (v := .pointer (some ⟨p, 0, none⟩)) (w' := w1) (by simp [execOp, Act.eval, d19, Sp.gd d19, go_sem]) hI trivial rfl
    · have d20 : a.tmps.getD 20 undef = .pointer (some ⟨p, 0, none⟩) := F.val 13 20 (by kernel_rfl) (by rfl)
      exact Sp.sp_value rfl (Sp.wanted_none rfl) (v := .pointer (some ⟨p, 4, none⟩)) (w' := w1) (by simp [execOp, Act.eval, d20, Sp.gd d20, go_sem]) hI trivial rfl
    · have d21 : a.tmps.getD 21 undef = .pointer (some ⟨p, 4, none⟩) := F.val 14 21 (by kernel_rfl) (by rfl)
      exact Sp.sp_value rfl (Sp.wanted_none rfl) (v := .agg #[.int .i64 y0, .int .i64 y1, .int .i64 y2]) (w' := w1) (by simp [execOp, Act.eval, d21, Sp.gd d21, hI.q4, hI.q5, hI.q6, go_sem]) hI trivial rfl
    · have d22 : a.tmps.getD 22 undef = .agg #[.int .i64 y0, .int .i64 y1, .int .i64 y2] := F.val 15 22 (by kernel_rfl) (by rfl)
      refine Sp.sp_call Tryd.func67 (by kernel_rfl) rfl #[.agg #[.int .i64 y0, .int .i64 y1, .int .i64 y2]] rfl (Sp.wanted_none rfl) rfl (by simp only [List.map_toArray, List.map_cons, List.map_nil, Act.eval, d22]) ?_
      refine (zmark_any _ _ _ _).mono ?_
      rintro e w3 ⟨rfl, hb3⟩
      exact ⟨_, rfl, hI.below hb3, trivial, rfl⟩
    · have d0 : a.tmps.getD 0 undef = .pointer (some ⟨p, 0, none⟩) := F.out 0 (by kernel_rfl)
      exact Sp.sp_value rfl (Sp.wanted_none rfl) (v := .pointer (some ⟨p, 0, none⟩)) (w' := w1) (by simp [execOp, Act.eval, d0, Sp.gd d0, go_sem]) hI trivial rfl
    · have d24 : a.tmps.getD 24 undef = .pointer (some ⟨p, 0, none⟩) := F.val 17 24 (by kernel_rfl) (by rfl)
      exact Sp.sp_value rfl (Sp.wanted_none rfl) (v := .pointer (some ⟨p, 0, none⟩)) (w' := w1) (by simp [execOp, Act.eval, d24, Sp.gd d24, go_sem]) hI trivial rfl
    · have d25 : a.tmps.getD 25 undef = .pointer (some ⟨p, 0, none⟩) := F.val 18 25 (by kernel_rfl) (by rfl)
      exact Sp.sp_value rfl (Sp.wanted_none rfl) (v := .pointer (some ⟨p, 8, none⟩)) (w' := w1) (by simp [execOp, Act.eval, d25, Sp.gd d25, go_sem]) hI trivial rfl
    · have d26 : a.tmps.getD 26 undef = .pointer (some ⟨p, 8, none⟩) := F.val 19 26 (by kernel_rfl) (by rfl)
      exact Sp.sp_value rfl (Sp.wanted_none rfl) (v := .agg #[.int .i64 x0, .int .i64 x1, .int .i64 x2]) (w' := w1) (by simp [execOp, Act.eval, d26, Sp.gd d26, hI.q8, hI.q9, hI.q10, go_sem]) hI trivial rfl
    · have d27 : a.tmps.getD 27 undef = .agg #[.int .i64 x0, .int .i64 x1, .int .i64 x2] := F.val 20 27 (by kernel_rfl) (by rfl)
      refine Sp.sp_call Tryd.func67 (by kernel_rfl) rfl #[.agg #[.int .i64 x0, .int .i64 x1, .int .i64 x2]] rfl (Sp.wanted_none rfl) rfl (by simp only [List.map_toArray, List.map_cons, List.map_nil, Act.eval, d27]) ?_
      refine (zmark_any _ _ _ _).mono ?_
      rintro e w3 ⟨rfl, hb3⟩
      exact ⟨_, rfl, hI.below hb3, trivial, rfl⟩
    · have d10 : a.tmps.getD 10 undef = .int .i64 z0 := F.val 3 10 (by kernel_rfl) (by rfl)
      exact Sp.sp_value rfl (Sp.wanted_none rfl) (v := .int .i64 z0) (w' := w1) (by simp [execOp, Act.eval, d10, Sp.gd d10, go_sem]) hI trivial rfl
    · have d14 : a.tmps.getD 14 undef = .int .i64 z2 := F.val 7 14 (by kernel_rfl) (by rfl)
      exact Sp.sp_value rfl (Sp.wanted_none rfl) (v := .int .i64 z2) (w' := w1) (by simp [execOp, Act.eval, d14, Sp.gd d14, go_sem]) hI trivial rfl
    · have d18 : a.tmps.getD 18 undef = .int .i64 z3 := F.val 11 18 (by kernel_rfl) (by rfl)
      exact Sp.sp_value rfl (Sp.wanted_none rfl) (v := .int .i64 z3) (w' := w1) (by simp [execOp, Act.eval, d18, Sp.gd d18, go_sem]) hI trivial rfl
    · have d5 : a.tmps.getD 5 undef = .pointer (some ⟨w0.heap.size, 0, none⟩) := F.out 5 (by kernel_rfl)
      have d23 : a.tmps.getD 23 undef = .agg #[.int .i64 y0, .int .i64 y1, .int .i64 y2] := F.val 16 23 (by kernel_rfl) (by rfl)
      have hst := hI.store5 y0 y1 y2
      have g1 := Sp.gd d5
      have g2 := Sp.gd d23
      have hst1 := hst.1
      exact Sp.sp_store rfl (Sp.wanted_none rfl) (by simp [execOp, Act.eval, g1, g2, hst1]) hst.2 trivial trivial
    · have d6 : a.tmps.getD 6 undef = .pointer (some ⟨(w0.heap.size + 1), 0, none⟩) := F.out 6 (by kernel_rfl)
      have d28 : a.tmps.getD 28 undef = .agg #[.int .i64 x0, .int .i64 x1, .int .i64 x2] := F.val 21 28 (by kernel_rfl) (by rfl)
      have hst := hI.store6 x0 x1 x2
      have g1 := Sp.gd d6
      have g2 := Sp.gd d28
      have hst1 := hst.1
      exact Sp.sp_store rfl (Sp.wanted_none rfl) (by simp [execOp, Act.eval, g1, g2, hst1]) hst.2 trivial trivial
  · intro val w1 hI hS
    have v22 : val 22 = .int .i64 z0 := hS 22 (by decide)
    have v23 : val 23 = .int .i64 z2 := hS 23 (by decide)
    have v24 : val 24 = .int .i64 z3 := hS 24 (by decide)
    simp only [Sp.setAll, List.setIfInBounds_toArray, List.set_cons_zero, List.set_cons_succ, v22, v23, v24]
    clear hS
    obtain ⟨a, b, c, h5⟩ := hI.b5
    obtain ⟨a', b', c', h6⟩ := hI.b6
    have c50 := (at_ h5 0 rfl).1
    have c51 := (at_ h5 1 rfl).1
    have c52 := (at_ h5 2 rfl).1
    have c60 := (at_ h6 0 rfl).1
    have c61 := (at_ h6 1 rfl).1
    have c62 := (at_ h6 2 rfl).1
    have HB := Lib.hid hI.bel
    clear hI h5 h6 HM HWA
    go_wp2_with fail
    (try simp only [Exit.inBlock, Exit.then])
    refine bodyPost_ret (by simp [results, Tryd.results65, c50, c51, c52, c60, c61, c62, go_sem]; try rfl) rfl ?_
    exact ⟨⟨z2, z3, a, b, c, a', b', c', rfl⟩, HB.out⟩
/-- A fault, in memory. -/
def nine (k a0 a1 a2 b0 b1 b2 z2 z3 : Int) : List Value := [.int .i64 k, .int .i64 a0, .int .i64 a1, .int .i64 a2, .int .i64 b0, .int .i64 b1, .int .i64 b2, .int .i64 z2, .int .i64 z3]
/-- In the midst of it. -/
structure Mid35 (a0 a1 a2 b0 b1 b2 : Int) (n6 n7 : Nat) (w0 w : World) : Prop where
  lt6 : w0.heap.size < n6
  lt7 : w0.heap.size < n7
  bel : Below w0.heap.size w0 w
  c6 : Bk w n6 70 (tri a0 a1 a2)
  c7 : Bk w n7 70 (tri b0 b1 b2)
  c2 : ∃ cur, Bk w w0.heap.size 31 cur ∧ cur.length = 9
theorem Mid35.below {a0 a1 a2 b0 b1 b2 : Int} {n6 n7 : Nat} {w0 w w' : World} (h : Mid35 a0 a1 a2 b0 b1 b2 n6 n7 w0 w) (hb : Below w.heap.size w w') : Mid35 a0 a1 a2 b0 b1 b2 n6 n7 w0 w' := by
  obtain ⟨cur, h5, h6⟩ := h.c2
  have hk : Kp [] w w' := Kp.of_below hb
  exact ⟨h.lt6, h.lt7, h.bel.trans (hb.mono h.bel.size), h.c6.kp hk (by simp), h.c7.kp hk (by simp), cur, h5.kp hk (by simp), h6⟩
theorem Mid35.store {a0 a1 a2 b0 b1 b2 : Int} {n6 n7 : Nat} {w0 w : World} (h : Mid35 a0 a1 a2 b0 b1 b2 n6 n7 w0 w) (z2 z3 : Int) :
    (Instr.storeAt 31 (.pointer (some ⟨w0.heap.size, 0, none⟩)) (.agg (nine 2 a0 a1 a2 b0 b1 b2 z2 z3).toArray)).run Tryd.prog w = .ok () (w.setCells w0.heap.size 0 (nine 2 a0 a1 a2 b0 b1 b2 z2 z3)) ∧ Mid35 a0 a1 a2 b0 b1 b2 n6 n7 w0 (w.setCells w0.heap.size 0 (nine 2 a0 a1 a2 b0 b1 b2 z2 z3)) ∧ Bk (w.setCells w0.heap.size 0 (nine 2 a0 a1 a2 b0 b1 b2 z2 z3)) w0.heap.size 31 (nine 2 a0 a1 a2 b0 b1 b2 z2 z3) := by
  obtain ⟨cur, h5, h6⟩ := h.c2
  have l6 := h.lt6
  have l7 := h.lt7
  have hs := store_all (nine 2 a0 a1 a2 b0 b1 b2 z2 z3) h5 h6 (by kernel_rfl) (by kernel_rfl)
  have hk : Kp [w0.heap.size] w (w.setCells w0.heap.size 0 (nine 2 a0 a1 a2 b0 b1 b2 z2 z3)) := Kp.setCells _ (by simp) _ _ _ (Kp.refl _ _)
  exact ⟨hs.1, ⟨h.lt6, h.lt7, h.bel.trans (hk.below h.bel.size (by simp)), h.c6.kp hk (by simp; omega), h.c7.kp hk (by simp; omega), _, hs.2, rfl⟩, hs.2⟩
def Se (w0 : World) (a0 a1 a2 b0 b1 b2 z2 z3 : Int) : Nat → Value → World → Prop
  | 0, v, _ => v = .int .i64 3
  | 1, v, _ => v = .int .i64 2
  | 2, v, _ => v = .agg #[.int .i64 a0, .int .i64 a1, .int .i64 a2]
  | 3, v, _ => v = .agg #[.int .i64 a0, .int .i64 a1, .int .i64 a2]
  | 4, v, _ => v = .agg #[.int .i64 b0, .int .i64 b1, .int .i64 b2]
  | 5, v, _ => v = .agg #[.int .i64 b0, .int .i64 b1, .int .i64 b2]
  | 6, v, _ => v = .int .i64 z2
  | 7, v, _ => v = .int .i64 z3
  | 8, v, _ => v = .agg (nine 2 a0 a1 a2 b0 b1 b2 z2 z3).toArray
  | 9, v, w => Bk w w0.heap.size 31 (nine 2 a0 a1 a2 b0 b1 b2 z2 z3)
  | _, _, _ => True
theorem Se_mono (w0 : World) (a0 a1 a2 b0 b1 b2 z2 z3 : Int) (i : Nat) (v : Value) (w w' : World) (hR : Bk w w0.heap.size 31 (nine 2 a0 a1 a2 b0 b1 b2 z2 z3) → Bk w' w0.heap.size 31 (nine 2 a0 a1 a2 b0 b1 b2 z2 z3)) (h : Se w0 a0 a1 a2 b0 b1 b2 z2 z3 i v w) : Se w0 a0 a1 a2 b0 b1 b2 z2 z3 i v w' := by
  unfold Se at h ⊢
  split at h <;> first | exact h | exact hR h
set_option maxHeartbeats 2000000 in
set_option maxRecDepth 100000 in
theorem fault_full (p : Nat) (L : List Value) (w0 : World) (h : Bk w0 p 120 L) (hc : Cells L) (h0 : L[0]? = some (.int .i64 3)) :
    Calls Tryd.prog 35 #[.pointer (some ⟨p, 0, none⟩)] w0 fun e w' => (∃ z2 z3 a0 a1 a2 b0 b1 b2 : Int, e = .returned (.agg (nine 2 a0 a1 a2 b0 b1 b2 z2 z3).toArray)) ∧ Below w0.heap.size w0 w' := by
  have HC := Lib.hid hc
  have H0 := Lib.hid h0
  have H := Lib.hid h
  clear h hc h0
  go_enter Tryd.func35, Tryd.ntmps35
  go_upto_region 1 with fail
  obtain ⟨wa, HWA⟩ : ∃ wa : World, Hid ((w0.alloc (.cells (nine 0 0 0 0 0 0 0 0 0).toArray 31)) = wa) := ⟨_, rfl⟩
  have hb : Bk wa w0.heap.size 31 (nine 0 0 0 0 0 0 0 0 0) := by rw [← HWA.out]; exact Bk.new _ _ _
  have hb0 : Below w0.heap.size w0 wa := by rw [← HWA.out]; exact (Below.refl _ _).alloc (Nat.le_refl _) _
  have hp : Bk wa p 120 L := by rw [← HWA.out]; exact H.out.alloc _
  have hsz : wa.heap.size = w0.heap.size + 1 := by rw [← HWA.out]; simp
  have HB := Lib.hid hb
  have HB0 := Lib.hid hb0
  have HP := Lib.hid hp
  clear hb hb0 hp
  try rw [show (w0.alloc (.cells #[.int .i64 0, .int .i64 0, .int .i64 0, .int .i64 0, .int .i64 0, .int .i64 0, .int .i64 0, .int .i64 0, .int .i64 0] 31)) = wa from HWA.out]
  go_wp2_with fail
  refine (zfault_any p L 3 _ HP.out HC.out H0.out).mono ?_
  rintro e w1 ⟨⟨z2, z3, a0, a1, a2, b0, b1, b2, rfl⟩, hb1⟩
  have hs1 := hb1.size
  have hm : Mid35 a0 a1 a2 b0 b1 b2 w1.heap.size (w1.heap.size + 1) w0 ((w1.alloc (.cells #[.int .i64 a0, .int .i64 a1, .int .i64 a2] 70)).alloc (.cells #[.int .i64 b0, .int .i64 b1, .int .i64 b2] 70)) := by
    have n6 : Bk (w1.alloc (.cells #[.int .i64 a0, .int .i64 a1, .int .i64 a2] 70)) w1.heap.size 70 (tri a0 a1 a2) := Bk.new w1 (tri a0 a1 a2) 70
    have n7 : Bk ((w1.alloc (.cells #[.int .i64 a0, .int .i64 a1, .int .i64 a2] 70)).alloc (.cells #[.int .i64 b0, .int .i64 b1, .int .i64 b2] 70)) (w1.heap.size + 1) 70 (tri b0 b1 b2) := by
      have := Bk.new (w1.alloc (.cells #[.int .i64 a0, .int .i64 a1, .int .i64 a2] 70)) (tri b0 b1 b2) 70
      rw [show (w1.alloc (.cells #[.int .i64 a0, .int .i64 a1, .int .i64 a2] 70)).heap.size = w1.heap.size + 1 by simp] at this
      exact this
    exact ⟨by omega, by omega, ((HB0.out.trans (hb1.mono (by omega))).alloc (by omega) _).alloc (by simp; omega) _, n6.alloc _, n7, _, ((HB.out.kp (Kp.of_below (ps := []) hb1) (by simp)).alloc _).alloc _, rfl⟩
  have HM := Lib.hid hm
  clear hm hb1
  go_upto_region 2 with fail
  obtain ⟨w2, HW2⟩ : ∃ w2 : World, Hid ((w1.alloc (.cells #[.int .i64 a0, .int .i64 a1, .int .i64 a2] 70)).alloc (.cells #[.int .i64 b0, .int .i64 b1, .int .i64 b2] 70) = w2) := ⟨_, rfl⟩
  rw [HW2.out] at HM ⊢
  refine Sp.region_specs (by kernel_rfl) _ (by kernel_rfl) (by kernel_rfl) (by kernel_rfl) rfl (by kernel_rfl) (Se w0 a0 a1 a2 b0 b1 b2 z2 z3) (Mid35 a0 a1 a2 b0 b1 b2 w1.heap.size (w1.heap.size + 1) w0) (fun w w' => Bk w w0.heap.size 31 (nine 2 a0 a1 a2 b0 b1 b2 z2 z3) → Bk w' w0.heap.size 31 (nine 2 a0 a1 a2 b0 b1 b2 z2 z3)) (HM.out.below ⟨rfl, rfl, rfl, Nat.le_refl _, fun _ _ => rfl⟩) (fun i v w w' hR => Se_mono w0 a0 a1 a2 b0 b1 b2 z2 z3 i v w w' hR) ?_ ?_
  · clear HW2 HWA HB HB0 HP HC H0 H
    intro i hi a w2 F hI
    have hcases : i = 0 ∨ i = 1 ∨ i = 2 ∨ i = 3 ∨ i = 4 ∨ i = 5 ∨ i = 6 ∨ i = 7 ∨ i = 8 ∨ i = 9 := by have hi' : i < 10 := hi; omega
    rcases hcases with rfl | rfl | rfl | rfl | rfl | rfl | rfl | rfl | rfl | rfl
    · have d3 : a.tmps.getD 3 undef = .int .i64 3 := F.out 3 (by kernel_rfl)
      exact Sp.sp_value rfl (Sp.wanted_none rfl) (v := .int .i64 3) (w' := w2) (by simp [execOp, Act.eval, d3, Sp.gd d3, go_sem]) hI (fun h => h) rfl
    · have d16 : a.tmps.getD 16 undef = .int .i64 3 := F.val 0 16 (by kernel_rfl) (by rfl)
      refine Sp.sp_call Tryd.func66 (by kernel_rfl) rfl #[.int .i64 3] rfl (Sp.wanted_none rfl) rfl (by simp only [List.map_toArray, List.map_cons, List.map_nil, Act.eval, d16]) ?_
      refine (kind_any _).mono ?_
      rintro e w3 ⟨rfl, rfl⟩
      exact ⟨_, rfl, hI, fun h => h, rfl⟩
    · have d6 : a.tmps.getD 6 undef = .pointer (some ⟨w1.heap.size, 0, none⟩) := F.out 6 (by kernel_rfl)
      exact Sp.sp_value rfl (Sp.wanted_none rfl) (v := .agg #[.int .i64 a0, .int .i64 a1, .int .i64 a2]) (w' := w2) (by simp [execOp, Act.eval, d6, Sp.gd d6, (at_ hI.c6 0 rfl).1, (at_ hI.c6 1 rfl).1, (at_ hI.c6 2 rfl).1, go_sem]) hI (fun h => h) rfl
    · have d18 : a.tmps.getD 18 undef = .agg #[.int .i64 a0, .int .i64 a1, .int .i64 a2] := F.val 2 18 (by kernel_rfl) (by rfl)
      refine Sp.sp_call Tryd.func36 (by kernel_rfl) rfl #[.agg #[.int .i64 a0, .int .i64 a1, .int .i64 a2]] rfl (Sp.wanted_none rfl) rfl (by simp only [List.map_toArray, List.map_cons, List.map_nil, Act.eval, d18]) ?_
      refine (mark_any _ _ _ _).mono ?_
      rintro e w3 ⟨rfl, hb3⟩
      exact ⟨_, rfl, hI.below hb3, fun h => h.kp (Kp.of_below (ps := []) hb3) (by simp), rfl⟩
    · have d7 : a.tmps.getD 7 undef = .pointer (some ⟨(w1.heap.size + 1), 0, none⟩) := F.out 7 (by kernel_rfl)
      exact Sp.sp_value rfl (Sp.wanted_none rfl) (v := .agg #[.int .i64 b0, .int .i64 b1, .int .i64 b2]) (w' := w2) (by simp [execOp, Act.eval, d7, Sp.gd d7, (at_ hI.c7 0 rfl).1, (at_ hI.c7 1 rfl).1, (at_ hI.c7 2 rfl).1, go_sem]) hI (fun h => h) rfl
    · have d20 : a.tmps.getD 20 undef = .agg #[.int .i64 b0, .int .i64 b1, .int .i64 b2] := F.val 4 20 (by kernel_rfl) (by rfl)
      refine Sp.sp_call Tryd.func36 (by kernel_rfl) rfl #[.agg #[.int .i64 b0, .int .i64 b1, .int .i64 b2]] rfl (Sp.wanted_none rfl) rfl (by simp only [List.map_toArray, List.map_cons, List.map_nil, Act.eval, d20]) ?_
      refine (mark_any _ _ _ _).mono ?_
      rintro e w3 ⟨rfl, hb3⟩
      exact ⟨_, rfl, hI.below hb3, fun h => h.kp (Kp.of_below (ps := []) hb3) (by simp), rfl⟩
    · have d4 : a.tmps.getD 4 undef = .int .i64 z2 := F.out 4 (by kernel_rfl)
      exact Sp.sp_value rfl (Sp.wanted_none rfl) (v := .int .i64 z2) (w' := w2) (by simp [execOp, Act.eval, d4, Sp.gd d4, go_sem]) hI (fun h => h) rfl
    · have d5 : a.tmps.getD 5 undef = .int .i64 z3 := F.out 5 (by kernel_rfl)
      exact Sp.sp_value rfl (Sp.wanted_none rfl) (v := .int .i64 z3) (w' := w2) (by simp [execOp, Act.eval, d5, Sp.gd d5, go_sem]) hI (fun h => h) rfl
    · have d17 : a.tmps.getD 17 undef = .int .i64 2 := F.val 1 17 (by kernel_rfl) (by rfl)
      have d19 : a.tmps.getD 19 undef = .agg #[.int .i64 a0, .int .i64 a1, .int .i64 a2] := F.val 3 19 (by kernel_rfl) (by rfl)
      have d21 : a.tmps.getD 21 undef = .agg #[.int .i64 b0, .int .i64 b1, .int .i64 b2] := F.val 5 21 (by kernel_rfl) (by rfl)
      have d22 : a.tmps.getD 22 undef = .int .i64 z2 := F.val 6 22 (by kernel_rfl) (by rfl)
      have d23 : a.tmps.getD 23 undef = .int .i64 z3 := F.val 7 23 (by kernel_rfl) (by rfl)
      exact Sp.sp_value rfl (Sp.wanted_none rfl) (v := .agg (nine 2 a0 a1 a2 b0 b1 b2 z2 z3).toArray) (w' := w2) (by simp [execOp, Act.eval, d17, Sp.gd d17, d19, Sp.gd d19, d21, Sp.gd d21, d22, Sp.gd d22, d23, Sp.gd d23, nine, go_sem]) hI (fun h => h) rfl
    · have d2 : a.tmps.getD 2 undef = .pointer (some ⟨w0.heap.size, 0, none⟩) := F.out 2 (by kernel_rfl)
      have d24 : a.tmps.getD 24 undef = .agg (nine 2 a0 a1 a2 b0 b1 b2 z2 z3).toArray := F.val 8 24 (by kernel_rfl) (by rfl)
      have hst := hI.store z2 z3
      have g1 := Sp.gd d2
      have g2 := Sp.gd d24
      have hst1 := hst.1
      exact Sp.sp_store rfl (Sp.wanted_none rfl) (by simp [execOp, Act.eval, g1, g2, hst1]) hst.2.1 (fun _ => hst.2.2) hst.2.2
  · intro val w3 hI hS
    have h9 : Bk w3 w0.heap.size 31 (nine 2 a0 a1 a2 b0 b1 b2 z2 z3) := hS 9 (by decide)
    simp only [Sp.setAll, List.setIfInBounds_toArray, List.set_cons_zero, List.set_cons_succ]
    clear hS
    have c0 := (at_ h9 0 rfl).1
    have c1 := (at_ h9 1 rfl).1
    have c2 := (at_ h9 2 rfl).1
    have c3 := (at_ h9 3 rfl).1
    have c4 := (at_ h9 4 rfl).1
    have c5 := (at_ h9 5 rfl).1
    have c6 := (at_ h9 6 rfl).1
    have c7 := (at_ h9 7 rfl).1
    have c8 := (at_ h9 8 rfl).1
    have HBL := Lib.hid hI.bel
    clear hI h9 HM HWA HW2 HB HB0 HP HC H0 H
    go_wp2_with fail
    (try simp only [Exit.inBlock, Exit.then])
    refine bodyPost_ret (by simp [results, Tryd.results35, c0, c1, c2, c3, c4, c5, c6, c7, c8, go_sem]; try rfl) rfl ?_
    exact ⟨⟨z2, z3, a0, a1, a2, b0, b1, b2, rfl⟩, HBL.out⟩
end Go.Proofs.YtocbbekciphjgaaDoor.Sc
/- SpM -/
/- What holds in the midst of a region that reads some blocks, calls what makes new blocks alone, and writes blocks of its own. -/
namespace Go.Proofs.YtocbbekciphjgaaDoor.Sc
open Go.RowKit Go.Proofs.YtocbbekciphjgaaDoor.Rdp Go.Proofs.YtocbbekciphjgaaDoor.Pa
set_option linter.unusedVariables false
set_option linter.unusedSimpArgs false
/-- A block: its number, its type, its cells. -/
abbrev Blk := Nat × TypeId × List Value
structure Mid (bs os : List Blk) (B : Nat) (w0 w : World) : Prop where
  st : ∀ x ∈ bs, Bk w x.1 x.2.1 x.2.2
  ow : ∀ x ∈ os, ∃ cur, Bk w x.1 x.2.1 cur ∧ cur.length = x.2.2.length
  bel : Below B w0 w
  hB : B ≤ w0.heap.size
  old : ∀ x ∈ os, B ≤ x.1
  ne : ∀ x ∈ os, ∀ y ∈ bs, y.1 ≠ x.1
  nd : ∀ x ∈ os, ∀ y ∈ os, y.1 = x.1 → y = x
/-- What has been written stays. -/
def MidR (os : List Blk) (w w' : World) : Prop := ∀ x ∈ os, Bk w x.1 x.2.1 x.2.2 → Bk w' x.1 x.2.1 x.2.2
theorem MidR.refl (os : List Blk) (w : World) : MidR os w w := fun _ _ h => h
theorem MidR.below {os : List Blk} {w w' : World} (hb : Below w.heap.size w w') : MidR os w w' := fun x _ h => h.kp (Kp.of_below (ps := []) hb) (by simp)
theorem Mid.below {bs os : List Blk} {B : Nat} {w0 w w' : World} (h : Mid bs os B w0 w) (hb : Below w.heap.size w w') : Mid bs os B w0 w' := by
  have hk : Kp [] w w' := Kp.of_below hb
  refine ⟨fun x hx => (h.st x hx).kp hk (by simp), fun x hx => ?_, h.bel.trans (hb.mono ?_), h.hB, h.old, h.ne, h.nd⟩
  · obtain ⟨cur, h1, h2⟩ := h.ow x hx
    exact ⟨cur, h1.kp hk (by simp), h2⟩
  · have := h.bel.size; have := h.hB; omega
theorem Mid.cell {bs os : List Blk} {B : Nat} {w0 w : World} (h : Mid bs os B w0 w) (x : Blk) (hx : x ∈ bs) (i : Nat) {v : Value} (hi : x.2.2[i]? = some v) : w.cell? ⟨x.1, i, none⟩ = some v := (at_ (h.st x hx) i hi).1
theorem Mid.store {bs os : List Blk} {B : Nat} {w0 w : World} (h : Mid bs os B w0 w) (x : Blk) (hx : x ∈ os) (hi : (Tryd.prog.info? x.2.1).map (·.size) = some x.2.2.length) (h1 : x.2.2.toArray.all (·.oneCell') = true) :
    (Instr.storeAt x.2.1 (.pointer (some ⟨x.1, 0, none⟩)) (.agg x.2.2.toArray)).run Tryd.prog w = .ok () (w.setCells x.1 0 x.2.2) ∧ Mid bs os B w0 (w.setCells x.1 0 x.2.2) ∧ MidR os w (w.setCells x.1 0 x.2.2) ∧ Bk (w.setCells x.1 0 x.2.2) x.1 x.2.1 x.2.2 := by
  obtain ⟨cur, h5, h6⟩ := h.ow x hx
  have hs := store_all x.2.2 h5 h6 hi h1
  have hk : Kp [x.1] w (w.setCells x.1 0 x.2.2) := Kp.setCells _ (by simp) _ _ _ (Kp.refl _ _)
  refine ⟨hs.1, ⟨fun y hy => (h.st y hy).kp hk (by simp; exact h.ne x hx y hy), fun y hy => ?_, h.bel.trans (hk.below ?_ (by simp; exact h.old x hx)), h.hB, h.old, h.ne, h.nd⟩, fun y hy hb => ?_, hs.2⟩
  · by_cases he : y.1 = x.1
    · obtain rfl := h.nd x hx y hy he
      exact ⟨_, hs.2, rfl⟩
    · obtain ⟨c2, g1, g2⟩ := h.ow y hy
      exact ⟨c2, g1.kp hk (by simp; exact he), g2⟩
  · have := h.bel.size; have := h.hB; omega
  · by_cases he : y.1 = x.1
    · obtain rfl := h.nd x hx y hy he
      exact hs.2
    · exact hb.kp hk (by simp; exact he)
end Go.Proofs.YtocbbekciphjgaaDoor.Sc
