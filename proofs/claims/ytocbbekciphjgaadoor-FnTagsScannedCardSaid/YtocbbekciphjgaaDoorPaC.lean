/- A parser of a text, as the thin package starts it: the walks. -/
import Derived.Test.YtocbbekciphjgaaDoorPaB
namespace Go.Proofs.YtocbbekciphjgaaDoor.Pa
open Go.RowKit
set_option linter.unusedVariables false
set_option linter.unusedSimpArgs false
/-- The function that reads out of a text. -/
def rdr : Value := .func (.func 129) #[] #[]
/-- A parser that has its text. -/
noncomputable def pStart (T r q : Value) : List Value := (((pInit r q).toList.set 11 rdr).set 13 T).set 14 (.int .i64 0)
theorem pInit_at11 (r q : Value) : (pInit r q).toList[11]? = some .nilFunc := by kernel_rfl
theorem pInit_at13 (r q : Value) : (pInit r q).toList[13]? = some (.slice none 0 0) := by kernel_rfl
theorem pInit_at14 (r q : Value) : (pInit r q).toList[14]? = some (.int .i64 0) := by kernel_rfl
theorem neqNil (w : World) : (binOp .neq 105 .nilFunc .nilFunc).run Tryd.prog w = .ok (.bool false) w := by kernel_rfl
set_option maxHeartbeats 1000000 in
theorem text_any (p : Nat) (A : Option Addr) (n c : Nat) (r q : Value) (w : World) (h : Bk w p 120 (pInit r q).toList) :
    Calls Tryd.prog 99 #[.pointer (some ⟨p, 0, none⟩), .slice A n c] w fun e w' => e = .returned (.tuple #[]) ∧ Bk w' p 120 (pStart (.slice A n c) r q) ∧ Kp [p] w w' := by
  obtain ⟨c11, f11⟩ := h.cell 11
  obtain ⟨c13, f13⟩ := h.cell 13
  obtain ⟨c14, f14⟩ := h.cell 14
  rw [pInit_at11] at c11
  rw [pInit_at13] at c13
  rw [pInit_at14] at c14
  have H := Lib.hid h
  clear h
  have hnf := neqNil
  go_enter Tryd.func99, Tryd.ntmps99
  go_wp2_with fail
  go_end0
  refine ⟨rfl, ?_, ?_⟩
  · exact ((H.out.set 11 _).set 13 _).set 14 _
  · exact (((Kp.refl _ _).setCell p 11 _ (by simp)).setCell p 13 _ (by simp)).setCell p 14 _ (by simp)
set_option maxHeartbeats 400000 in
theorem start_any (p : Nat) (cur : List Value) (w : World) (h : Bk w p 120 cur) (hl : cur.length = 52) :
    Calls Tryd.prog 61 #[.pointer (some ⟨p, 0, none⟩)] w fun e w' => e = .returned (.tuple #[]) ∧ First p w w' ∧ Kp [p] w w' := by
  have hi := init_any p cur w h hl
  have HI := Lib.hid hi
  clear hi h
  go_enter Tryd.func61, Tryd.ntmps61
  go_wp2_with fail
  refine HI.out.mono ?_
  rintro e w1 ⟨rfl, h1, h2⟩
  have H1 := Lib.hid h1
  have H2 := Lib.hid h2
  clear h1 h2
  go_wp2_with fail
  go_end0
  exact ⟨rfl, H1.out, H2.out⟩
set_option maxHeartbeats 400000 in
theorem ptext_any (p : Nat) (A : Option Addr) (n c : Nat) (r q : Value) (w : World) (h : Bk w p 120 (pInit r q).toList) :
    Calls Tryd.prog 62 #[.pointer (some ⟨p, 0, none⟩), .slice A n c] w fun e w' => e = .returned (.tuple #[]) ∧ Bk w' p 120 (pStart (.slice A n c) r q) ∧ Kp [p] w w' := by
  have hi := text_any p A n c r q w h
  have HI := Lib.hid hi
  clear hi h
  go_enter Tryd.func62, Tryd.ntmps62
  go_wp2_with fail
  refine HI.out.mono ?_
  rintro e w1 ⟨rfl, h1, h2⟩
  have H1 := Lib.hid h1
  have H2 := Lib.hid h2
  clear h1 h2
  go_wp2_with fail
  go_end0
  exact ⟨rfl, H1.out, H2.out⟩
theorem wpList_run {P : Program} {ops : Array Oper} {Q : Exit → Act → World → Prop} {rest : List Oper} {o : Oper} {a : Act} {w w' : World} {v : Value} (hgd : o.guard = none)
    (hx : (execOp a.eval o).run P w = .ok (.value v) w') (h : wpList P ops Q rest (a.put o.dst v) w') : wpList P ops Q (o :: rest) a w := by
  unfold wpList
  have hw : Region.wanted o (yielded ops a.tmps) = true := by unfold Region.wanted; rw [hgd]
  rw [if_pos hw]
  left
  unfold Oper.wp
  rw [hx]
  exact h
theorem wpList_build0 {ops : Array Oper} {Q : Exit → Act → World → Prop} {rest : List Oper} {o : Oper} {a : Act} {w : World} (hgd : o.guard = none) (ho : o.op = .build 120 #[])
    (h : wpList Tryd.prog ops Q rest (a.put o.dst (.agg zeroP)) w) : wpList Tryd.prog ops Q (o :: rest) a w := by
  refine wpList_run hgd ?_ h
  have := bld0 w
  simp [execOp, ho, this]
theorem wpList_boxP {ops : Array Oper} {Q : Exit → Act → World → Prop} {rest : List Oper} {o : Oper} {a : Act} {w : World} (hgd : o.guard = none) (x : Operand) (ho : o.op = .box 120 x) (hx : a.eval x = .agg zeroP)
    (h : wpList Tryd.prog ops Q rest (a.put o.dst (.pointer (some ⟨w.heap.size, 0, none⟩))) (w.alloc (.cells zeroP 120))) : wpList Tryd.prog ops Q (o :: rest) a w := by
  refine wpList_run hgd ?_ h
  have := boxP w
  simp [execOp, ho, hx, this]
/-- A new parser of a text. -/
def Started (T : Value) (w : World) (e : Ending) (w' : World) : Prop := ∃ p r q, e = .returned (.pointer (some ⟨p, 0, none⟩)) ∧ w.heap.size ≤ p ∧ p < r ∧ p < q ∧ r ≠ q ∧ Bk w' r 5 (zeros 512) ∧ Bk w' q 5 (zeros 1536) ∧
  Bk w' p 120 (pStart T (.slice (some ⟨r, 0, none⟩) 0 512) (.slice (some ⟨q, 0, none⟩) 0 1536)) ∧ Below w.heap.size w w'
theorem zero_len : zeroP.toList.length = 52 := by kernel_rfl
set_option maxHeartbeats 2000000 in
set_option maxRecDepth 100000 in
theorem started_any (A : Option Addr) (n c : Nat) (w : World) : Calls Tryd.prog 31 #[.slice A n c] w (Started (.slice A n c) w) := by
  go_enter Tryd.func31, Tryd.ntmps31
  go_wp2_with (first | (refine wpList_build0 rfl rfl ?_) | (refine wpList_boxP rfl _ rfl rfl ?_))
  obtain ⟨w0, hw0⟩ : ∃ w0 : World, w0 = w.alloc (Obj.cells zeroP 120) := ⟨_, rfl⟩
  rw [← hw0]
  have hb0 : Bk w0 w.heap.size 120 zeroP.toList := by rw [hw0]; exact Bk.new w zeroP.toList _
  have hs0 : w0.heap.size = w.heap.size + 1 := by rw [hw0]; simp
  have hk0 : Below w.heap.size w w0 := by rw [hw0]; exact (Below.refl _ _).alloc (Nat.le_refl _) _
  have HK0 := Lib.hid hk0
  clear hw0 hk0
  refine (start_any w.heap.size zeroP.toList w0 hb0 zero_len).mono ?_
  rintro e w1 ⟨rfl, ⟨r, q, ⟨b1, rfl, k1, m1⟩, ⟨b2, rfl, k2, m2⟩, m⟩, hk1⟩
  have HM := Lib.hid m
  have HM1 := Lib.hid m1
  have HM2 := Lib.hid m2
  have HK1 := Lib.hid (HK0.out.trans (hk1.below (by omega) (by simp)))
  clear m m1 m2 hk1 hb0
  go_wp2_with fail
  refine (ptext_any w.heap.size A n c _ _ w1 HM.out).mono ?_
  rintro e w2 ⟨rfl, hm, hk2⟩
  have HM3 := Lib.hid hm
  have h1 : Bk w2 b1 5 (zeros 512) := HM1.out.kp hk2 (by simp; omega)
  have h2 : Bk w2 b2 5 (zeros 1536) := HM2.out.kp hk2 (by simp; omega)
  have H1 := Lib.hid h1
  have H2 := Lib.hid h2
  have HK2 := Lib.hid (HK1.out.trans (hk2.below (by have := HK1.out.size; omega) (by simp)))
  clear hm hk2 h1 h2
  go_wp2_with fail
  go_ret
  refine ⟨w.heap.size, b1, b2, rfl, Nat.le_refl _, by omega, by omega, ?_, H1.out, H2.out, HM3.out, HK2.out⟩
  intro e
  subst e
  have h1 := H1.out
  have h2 := H2.out
  unfold Bk at h1 h2
  rw [h1] at h2
  simp only [Option.some.injEq, Obj.cells.injEq] at h2
  have := congrArg Array.size h2.1
  simp [zeros] at this
end Go.Proofs.YtocbbekciphjgaaDoor.Pa
