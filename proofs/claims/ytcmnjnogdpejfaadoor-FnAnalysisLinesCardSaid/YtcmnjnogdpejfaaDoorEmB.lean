/- An emitter of settings: the walk. -/
import Derived.Test.YtcmnjnogdpejfaaDoorEmA
import Derived.Laws.EntriesVeiled
import Derived.Handy
namespace Go.Proofs.YtcmnjnogdpejfaaDoor.Em
open Go.RowKit
set_option linter.unusedVariables false
theorem wpList_run {P : Program} {ops : Array Oper} {Q : Exit → Act → World → Prop} {rest : List Oper} {o : Oper} {a : Act} {w w' : World} {v : Value} (hgd : o.guard = none)
    (hx : (execOp a.eval o).run P w = .ok (.value v) w') (h : wpList P ops Q rest (a.put o.dst v) w') : wpList P ops Q (o :: rest) a w := by
  unfold wpList
  have hw : Region.wanted o (yielded ops a.tmps) = true := by unfold Region.wanted; rw [hgd]
  rw [if_pos hw]
  left
  unfold Oper.wp
  rw [hx]
  exact h
theorem wpList_build0 {ops : Array Oper} {Q : Exit → Act → World → Prop} {rest : List Oper} {o : Oper} {a : Act} {w : World} (hgd : o.guard = none) (ho : o.op = .build 61 #[])
    (h : wpList Tryd.prog ops Q rest (a.put o.dst (.agg zeroE)) w) : wpList Tryd.prog ops Q (o :: rest) a w := by
  refine wpList_run hgd ?_ h
  have := bld0 w
  simp [execOp, ho, this]
theorem boxE (w : World) : (Instr.box 61 (.agg zeroE)).run Tryd.prog w = .ok (.pointer (some ⟨w.heap.size, 0, none⟩)) (w.alloc (.cells zeroE 61)) := by kernel_rfl
theorem wpList_boxE {ops : Array Oper} {Q : Exit → Act → World → Prop} {rest : List Oper} {o : Oper} {a : Act} {w : World} (hgd : o.guard = none) (x : Operand) (ho : o.op = .box 61 x) (hx : a.eval x = .agg zeroE)
    (h : wpList Tryd.prog ops Q rest (a.put o.dst (.pointer (some ⟨w.heap.size, 0, none⟩))) (w.alloc (.cells zeroE 61))) : wpList Tryd.prog ops Q (o :: rest) a w := by
  refine wpList_run hgd ?_ h
  have := boxE w
  simp [execOp, ho, hx, this]
theorem eAt0 (a b c d : Value) : (eInit a b c d).toList[0]? = some (.int .i64 0) := by kernel_rfl
theorem eAt2 (a b c d : Value) : (eInit a b c d).toList[2]? = some (.nilFunc) := by kernel_rfl
theorem eAt3 (a b c d : Value) : (eInit a b c d).toList[3]? = some (.pointer none) := by kernel_rfl
theorem eAt9 (a b c d : Value) : (eInit a b c d).toList[9]? = some (.int .i64 0) := by kernel_rfl
theorem eAt10 (a b c d : Value) : (eInit a b c d).toList[10]? = some (.bool false) := by kernel_rfl
theorem eAt11 (a b c d : Value) : (eInit a b c d).toList[11]? = some (.int .i64 0) := by kernel_rfl
theorem eAt12 (a b c d : Value) : (eInit a b c d).toList[12]? = some (.int .i64 (-1)) := by kernel_rfl
theorem eAt13 (a b c d : Value) : (eInit a b c d).toList[13]? = some (.bool false) := by kernel_rfl
theorem eAt14 (a b c d : Value) : (eInit a b c d).toList[14]? = some (.int .i64 0) := by kernel_rfl
theorem eAt20 (a b c d : Value) : (eInit a b c d).toList[20]? = some (.slice none 0 0) := by kernel_rfl
theorem eAt36 (a b c d : Value) : (eInit a b c d).toList[36]? = some (.slice none 0 0) := by kernel_rfl
theorem eAt37 (a b c d : Value) : (eInit a b c d).toList[37]? = some (.slice none 0 0) := by kernel_rfl
theorem eAt40 (a b c d : Value) : (eInit a b c d).toList[40]? = some (.bool false) := by kernel_rfl
theorem eAt41 (a b c d : Value) : (eInit a b c d).toList[41]? = some (.bool false) := by kernel_rfl
theorem eAt42 (a b c d : Value) : (eInit a b c d).toList[42]? = some (.bool false) := by kernel_rfl
theorem eAt43 (a b c d : Value) : (eInit a b c d).toList[43]? = some (.bool false) := by kernel_rfl
/-- A new emitter of the zero settings but for one. -/
def Ready (uni : Bool) (w : World) (e : Ending) (w' : World) : Prop := ∃ p, e = .returned (.pointer (some ⟨p, 0, none⟩)) ∧ w.heap.size ≤ p ∧ p < w'.heap.size ∧ w'.there p 0 55 ∧
  w'.cell? ⟨p, 0, none⟩ = some (.int .i64 0) ∧ w'.cell? ⟨p, 13, none⟩ = some (.bool uni) ∧ w'.cell? ⟨p, 20, none⟩ = some (.slice none 0 0) ∧ w'.cell? ⟨p, 36, none⟩ = some (.slice none 0 0) ∧ w'.cell? ⟨p, 37, none⟩ = some (.slice none 0 0) ∧ (w'.cell? ⟨p, 40, none⟩ = some (.bool false) ∧ w'.cell? ⟨p, 41, none⟩ = some (.bool false) ∧ w'.cell? ⟨p, 42, none⟩ = some (.bool false) ∧ w'.cell? ⟨p, 43, none⟩ = some (.bool false)) ∧ Below w.heap.size w w'
set_option maxHeartbeats 400000 in
theorem start_any (p : Nat) (w : World) (hp : p < w.heap.size) (ht : w.there p 0 55) : Calls Tryd.prog 14 #[.pointer (some ⟨p, 0, none⟩)] w (Started p w) := by
  go_enter Tryd.func14, Tryd.ntmps14
  go_wp2_with fail
  refine (init_any p w hp ht).mono ?_
  rintro e w1 ⟨v1, v2, v3, v4, rfl, h⟩
  have H := Lib.hid h
  clear h
  go_wp2_with fail
  go_end0
  exact ⟨v1, v2, v3, v4, rfl, H.out⟩
theorem neqNil (w : World) : (binOp .neq 43 .nilFunc .nilFunc).run Tryd.prog w = .ok (.bool false) w := by kernel_rfl
theorem there_setCell {w : World} {b o n : Nat} (h : w.there b o n) (a : Addr) (v : Value) : (w.setCell a v).there b o n := by
  intro j hj
  obtain ⟨h1, h2⟩ := h j hj
  refine ⟨?_, ?_⟩
  · obtain ⟨x, hx⟩ := Option.isSome_iff_exists.1 h1
    by_cases e : a = ⟨b, o + j, none⟩
    · subst e
      obtain ⟨v', hv⟩ := cell?_setCell_some (w := w) (p := ⟨b, o + j, none⟩) (x := v) (q := ⟨b, o + j, none⟩) (v := x) hx
      rw [hv]; rfl
    · obtain ⟨v', hv⟩ := cell?_setCell_some (w := w) (p := a) (x := v) (q := ⟨b, o + j, none⟩) (v := x) hx
      rw [hv]; rfl
  · simpa using h2
set_option maxHeartbeats 4000000 in
set_option maxRecDepth 100000 in
theorem emitter_any (uni : Bool) (ob : Nat) (w : World) :
    Calls Tryd.prog 9 #[.agg #[.bool false, .bool uni, .int .i64 0, .int .i64 0, .int .i64 0, .int .i64 0], .pointer (some ⟨ob, 0, none⟩)] w (Ready uni w) := by
  go_enter Tryd.func9, Tryd.ntmps9
  try simp only [List.append]
  go_wp2_with (first | (refine wpList_build0 rfl rfl ?_) | (refine wpList_boxE rfl _ rfl rfl ?_))
  obtain ⟨w0, hw0⟩ : ∃ w0 : World, w0 = (w.alloc (Obj.cells #[Value.bool false, Value.bool uni, Value.int IntKind.i64 0, Value.int IntKind.i64 0, Value.int IntKind.i64 0, Value.int IntKind.i64 0] 35)).alloc (Obj.cells zeroE 61) := ⟨_, rfl⟩
  rw [← hw0]
  have hs0 : w0.heap.size = w.heap.size + 2 := by rw [hw0]; simp
  have ht0 : w0.there (w.heap.size + 1) 0 55 := by
    have hz : zeroE.size = 55 := by kernel_rfl
    intro j hj
    rw [hw0]
    have hcell : ((w.alloc (Obj.cells #[Value.bool false, Value.bool uni, Value.int IntKind.i64 0, Value.int IntKind.i64 0, Value.int IntKind.i64 0, Value.int IntKind.i64 0] 35)).alloc (Obj.cells zeroE 61)).heap[w.heap.size + 1]? = some (Obj.cells zeroE 61) := by
      show ((w.heap.push _).push _)[w.heap.size + 1]? = _
      rw [Array.getElem?_push]
      simp
    refine ⟨?_, ?_⟩
    · unfold World.cell?
      rw [hcell]
      simp [hz, hj]
    · unfold World.frozen?
      rw [hcell]
      simp
  have hset : w0.heap[w.heap.size]? = some (Obj.cells #[Value.bool false, Value.bool uni, Value.int IntKind.i64 0, Value.int IntKind.i64 0, Value.int IntKind.i64 0, Value.int IntKind.i64 0] 35) := by
    rw [hw0]
    show ((w.heap.push _).push _)[w.heap.size]? = _
    rw [Array.getElem?_push]
    simp
  have hb0 : Below w.heap.size w w0 := by rw [hw0]; exact ((Below.refl _ _).alloc (Nat.le_refl _) _).alloc (by simp) _
  have HB0 := Lib.hid hb0
  have HT0 := Lib.hid ht0
  have HSET := Lib.hid hset
  clear hw0 hb0 ht0 hset
  refine (start_any (w.heap.size + 1) w0 (by omega) HT0.out).mono ?_
  rintro e w1 ⟨v1, v2, v3, v4, rfl, -, -, -, -, hr, ht, hx⟩
  have hf : ∀ k, k < 55 → w1.frozen? ⟨w.heap.size + 1, k, none⟩ = false := fun k hk => by have := (ht k hk).2; rw [Nat.zero_add] at this; exact this
  have hg : ∀ k v, (eInit v1 v2 v3 v4).toList[k]? = some v → w1.cell? ⟨w.heap.size + 1, k, none⟩ = some v := fun k v h => by have := hr k v h; rw [Nat.zero_add] at this; exact this
  have hs1 : ∀ k v, (#[Value.bool false, Value.bool uni, Value.int IntKind.i64 0, Value.int IntKind.i64 0, Value.int IntKind.i64 0, Value.int IntKind.i64 0] : Array Value)[k]? = some v → w1.cell? ⟨w.heap.size, k, none⟩ = some v := by
    intro k v h
    unfold World.cell?
    rw [hx.block w.heap.size (by omega) (by omega), HSET.out]
    simpa using h
  have z0 := hg 0 _ (eAt0 _ _ _ _)
  have z2 := hg 2 _ (eAt2 _ _ _ _)
  have z3 := hg 3 _ (eAt3 _ _ _ _)
  have z9 := hg 9 _ (eAt9 _ _ _ _)
  have z10 := hg 10 _ (eAt10 _ _ _ _)
  have z11 := hg 11 _ (eAt11 _ _ _ _)
  have z12 := hg 12 _ (eAt12 _ _ _ _)
  have z13 := hg 13 _ (eAt13 _ _ _ _)
  have z14 := hg 14 _ (eAt14 _ _ _ _)
  have z20 := hg 20 _ (eAt20 _ _ _ _)
  have z36 := hg 36 _ (eAt36 _ _ _ _)
  have z37 := hg 37 _ (eAt37 _ _ _ _)
  have z40 := hg 40 _ (eAt40 _ _ _ _)
  have z41 := hg 41 _ (eAt41 _ _ _ _)
  have z42 := hg 42 _ (eAt42 _ _ _ _)
  have z43 := hg 43 _ (eAt43 _ _ _ _)
  have f2 := hf 2 (by omega)
  have f3 := hf 3 (by omega)
  have f9 := hf 9 (by omega)
  have f10 := hf 10 (by omega)
  have f11 := hf 11 (by omega)
  have f12 := hf 12 (by omega)
  have f13 := hf 13 (by omega)
  have f14 := hf 14 (by omega)
  have s0 := hs1 0 _ rfl
  have s1 := hs1 1 _ rfl
  have s2 := hs1 2 _ rfl
  have s3 := hs1 3 _ rfl
  have s4 := hs1 4 _ rfl
  have s5 := hs1 5 _ rfl
  have hB : Below w.heap.size w w1 := HB0.out.trans (hx.below (by omega) (by omega))
  have hsz : w.heap.size + 2 ≤ w1.heap.size := by have := hx.size; omega
  have HB := Lib.hid hB
  have HT := Lib.hid ht
  clear hr ht hx hf hg hs1 hB HB0 HT0 HSET hs0
  have hnf := neqNil
  go_wp2
  go_ret
  refine ⟨w.heap.size + 1, rfl, by omega, ?_, ?_, ?_, ?_, ?_, ?_, ?_, ⟨?_, ?_, ?_, ?_⟩, ?_⟩
  · simp
    omega
  · repeat (first | (with_reducible refine there_setCell ?_ _ _) | (with_reducible exact HT.out))
  · first | (simp [z0]; done) | go_cell
  · first | (simp [z13]; done) | go_cell
  · first | (simp [z20]; done) | go_cell
  · first | (simp [z36]; done) | go_cell
  · first | (simp [z37]; done) | go_cell
  · first | (simp [z40]; done) | go_cell
  · first | (simp [z41]; done) | go_cell
  · first | (simp [z42]; done) | go_cell
  · first | (simp [z43]; done) | go_cell
  · repeat (first | (with_reducible refine Below.setCell ?_ (by simp) _) | (with_reducible exact HB.out))
end Go.Proofs.YtcmnjnogdpejfaaDoor.Em
