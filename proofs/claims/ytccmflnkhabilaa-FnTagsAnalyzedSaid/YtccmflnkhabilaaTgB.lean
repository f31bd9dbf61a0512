/- What is made where a directive is added (yaml_emitter_append_tag_directive): two rows of bytes and the copy's cell, in whatever order. -/
import Derived.Test.YtccmflnkhabilaaTgA
import Derived.Test.YtccmflnkhabilaaSpV
import Derived.Laws.MakeOwn
import Derived.Laws.CopyOwn
import Derived.Deep.MidRow
namespace Go.Proofs.Ytccmflnkhabilaa.Tg
open Go.RowKit
set_option linter.unusedVariables false
/-- So many noughts. -/
def zeros (n : Nat) : List Value := List.replicate n (.int .u8 0)
theorem info5 : (Try.prog.info? 5).map (fun i => (i.zero, i.size, i.bytes)) = some (some (.int .u8 0), 1, 1) := by kernel_rfl
theorem mk_any (n : Nat) (hn : n ≤ 2147483647) (w : World) : (Instr.makeSlice 22 (.int .i64 n) (.int .i64 n)).run Try.prog w = .ok (.slice (some ⟨w.heap.size, 0, none⟩) n n) (w.alloc (.cells (zeros n).toArray 5)) := by
  obtain ⟨i0, hi, hx⟩ := Option.map_eq_some_iff.1 info5
  simp only [Prod.mk.injEq] at hx
  obtain ⟨hz0, hz1, hz2⟩ := hx
  have h := run_make (P := Try.prog) w 22 5 i0 (.int .u8 0) Try.underlying22 hi hz0 .i64 .i64 (n : Int) (n : Int) (by omega) (by omega) (by rw [hz2]; omega) (by omega)
  rw [h, hz1, Nat.mul_one]
  have e : madeCells (Value.int .u8 0).cells n = (zeros n).toArray := by
    unfold madeCells zeros
    apply Array.ext
    · simp
    · intro i h1 h2
      simp [Value.cells, Nat.mod_one]
  simp [e]
/-- What holds of the world while the two rows and the copy's cell are made. -/
structure R8 (n1 n2 : Nat) (w0 : World) (L : Nat → Bool) (vs : Nat → Value) (w : World) : Prop where
  bel : Below w0.heap.size w0 w
  r5 : L 5 = true → ∃ b, vs 5 = .slice (some ⟨b, 0, none⟩) n1 n1 ∧ w0.heap.size ≤ b ∧ w.heap[b]? = some (.cells (zeros n1).toArray 5 (0, 0))
  r11 : L 11 = true → ∃ b, vs 11 = .slice (some ⟨b, 0, none⟩) n2 n2 ∧ w0.heap.size ≤ b ∧ w.heap[b]? = some (.cells (zeros n2).toArray 5 (0, 0))
  ne : L 5 = true → L 11 = true → (vs 5).ownBlock ≠ (vs 11).ownBlock
  r12 : L 12 = true → vs 12 = .agg #[vs 5, vs 11]
  r13 : L 13 = true → ∃ m, vs 13 = .pointer (some ⟨m, 0, none⟩) ∧ w0.heap.size ≤ m ∧ (L 14 = false → w.heap[m]? = some (.cells #[.slice none 0 0, .slice none 0 0] 74 (0, 0))) ∧ (L 14 = true → w.heap[m]? = some (.cells #[vs 5, vs 11] 74 (0, 0)))
theorem beq_off {i k : Nat} {b : Bool} (h : k ≠ i) : (k == i || b) = b := by
  rw [show (k == i) = false by simpa using h, Bool.false_or]
theorem upd_off {vs : Nat → Value} {i k : Nat} {v : Value} (h : k ≠ i) : Sp.upd vs i v k = vs k := by unfold Sp.upd; rw [if_neg h]
theorem upd_on {vs : Nat → Value} {i : Nat} {v : Value} : Sp.upd vs i v i = v := by unfold Sp.upd; rw [if_pos rfl]
theorem R8.pure {n1 n2 : Nat} {w0 : World} {L : Nat → Bool} {vs : Nat → Value} {w : World} (h : R8 n1 n2 w0 L vs w) (i : Nat) (v : Value) (h5 : i ≠ 5) (h11 : i ≠ 11) (h12 : i ≠ 12) (h13 : i ≠ 13) (h14 : i ≠ 14) :
    R8 n1 n2 w0 (fun j => j == i || L j) (Sp.upd vs i v) w := by
  refine ⟨h.bel, ?_, ?_, ?_, ?_, ?_⟩
  · rw [beq_off h5.symm, upd_off h5.symm]; exact h.r5
  · rw [beq_off h11.symm, upd_off h11.symm]; exact h.r11
  · rw [beq_off h5.symm, beq_off h11.symm, upd_off h5.symm, upd_off h11.symm]; exact h.ne
  · rw [beq_off h12.symm, upd_off h12.symm, upd_off h5.symm, upd_off h11.symm]; exact h.r12
  · rw [beq_off h13.symm, upd_off h13.symm, beq_off h14.symm, upd_off h5.symm, upd_off h11.symm]; exact h.r13
theorem lt_of_get {w : World} {b : Nat} {o : Obj} (h : w.heap[b]? = some o) : b < w.heap.size := (Array.getElem?_eq_some_iff.1 h).1
theorem alloc_old {w : World} {b : Nat} {o x : Obj} (h : w.heap[b]? = some o) : (w.alloc x).heap[b]? = some o := by
  have := lt_of_get h
  show (w.heap.push x)[b]? = _
  rw [Array.getElem?_push, if_neg (by omega)]
  exact h
theorem alloc_new (w : World) (x : Obj) : (w.alloc x).heap[w.heap.size]? = some x := by
  show (w.heap.push x)[w.heap.size]? = _
  rw [Array.getElem?_push, if_pos rfl]
theorem R8.make1 {n1 n2 : Nat} {w0 : World} {L : Nat → Bool} {vs : Nat → Value} {w : World} (h : R8 n1 n2 w0 L vs w) (h12 : L 12 = false) (h14 : L 14 = false) :
    R8 n1 n2 w0 (fun j => j == 5 || L j) (Sp.upd vs 5 (.slice (some ⟨w.heap.size, 0, none⟩) n1 n1)) (w.alloc (.cells (zeros n1).toArray 5)) := by
  have hs := h.bel.size
  refine ⟨h.bel.alloc hs _, fun _ => ⟨w.heap.size, upd_on, hs, alloc_new _ _⟩, fun h0 => ?_, fun _ h0 => ?_, fun h0 => ?_, fun h0 => ?_⟩
  · rw [beq_off (by decide)] at h0
    obtain ⟨b, e, hb, hc⟩ := h.r11 h0
    exact ⟨b, by rw [upd_off (by decide)]; exact e, hb, alloc_old hc⟩
  · rw [beq_off (by decide)] at h0
    obtain ⟨b, e, hb, hc⟩ := h.r11 h0
    rw [upd_on, upd_off (by decide), e]
    have := lt_of_get hc
    simp only [Value.ownBlock, ne_eq, Option.some.injEq]
    omega
  · rw [beq_off (by decide), h12] at h0
    cases h0
  · rw [beq_off (by decide)] at h0
    obtain ⟨m, e, hb, hc, _⟩ := h.r13 h0
    exact ⟨m, by rw [upd_off (by decide)]; exact e, hb, fun _ => alloc_old (hc h14), fun h1 => by rw [beq_off (by decide), h14] at h1; cases h1⟩
theorem R8.make2 {n1 n2 : Nat} {w0 : World} {L : Nat → Bool} {vs : Nat → Value} {w : World} (h : R8 n1 n2 w0 L vs w) (h12 : L 12 = false) (h14 : L 14 = false) :
    R8 n1 n2 w0 (fun j => j == 11 || L j) (Sp.upd vs 11 (.slice (some ⟨w.heap.size, 0, none⟩) n2 n2)) (w.alloc (.cells (zeros n2).toArray 5)) := by
  have hs := h.bel.size
  refine ⟨h.bel.alloc hs _, fun h0 => ?_, fun _ => ⟨w.heap.size, upd_on, hs, alloc_new _ _⟩, fun h0 _ => ?_, fun h0 => ?_, fun h0 => ?_⟩
  · rw [beq_off (by decide)] at h0
    obtain ⟨b, e, hb, hc⟩ := h.r5 h0
    exact ⟨b, by rw [upd_off (by decide)]; exact e, hb, alloc_old hc⟩
  · rw [beq_off (by decide)] at h0
    obtain ⟨b, e, hb, hc⟩ := h.r5 h0
    rw [upd_on, upd_off (by decide), e]
    have := lt_of_get hc
    simp only [Value.ownBlock, ne_eq, Option.some.injEq]
    omega
  · rw [beq_off (by decide), h12] at h0
    cases h0
  · rw [beq_off (by decide)] at h0
    obtain ⟨m, e, hb, hc, _⟩ := h.r13 h0
    exact ⟨m, by rw [upd_off (by decide)]; exact e, hb, fun _ => alloc_old (hc h14), fun h1 => by rw [beq_off (by decide), h14] at h1; cases h1⟩
theorem R8.pair {n1 n2 : Nat} {w0 : World} {L : Nat → Bool} {vs : Nat → Value} {w : World} (h : R8 n1 n2 w0 L vs w) :
    R8 n1 n2 w0 (fun j => j == 12 || L j) (Sp.upd vs 12 (.agg #[vs 5, vs 11])) w := by
  refine ⟨h.bel, ?_, ?_, ?_, ?_, ?_⟩
  · rw [beq_off (by decide), upd_off (by decide)]; exact h.r5
  · rw [beq_off (by decide), upd_off (by decide)]; exact h.r11
  · rw [beq_off (by decide), beq_off (by decide), upd_off (by decide), upd_off (by decide)]; exact h.ne
  · intro _; rw [upd_on, upd_off (by decide), upd_off (by decide)]
  · rw [beq_off (by decide), upd_off (by decide), beq_off (by decide), upd_off (by decide), upd_off (by decide)]; exact h.r13
theorem R8.cell {n1 n2 : Nat} {w0 : World} {L : Nat → Bool} {vs : Nat → Value} {w : World} (h : R8 n1 n2 w0 L vs w) (h14 : L 14 = false) :
    R8 n1 n2 w0 (fun j => j == 13 || L j) (Sp.upd vs 13 (.pointer (some ⟨w.heap.size, 0, none⟩))) (w.alloc (.cells #[.slice none 0 0, .slice none 0 0] 74)) := by
  have hs := h.bel.size
  refine ⟨h.bel.alloc hs _, fun h0 => ?_, fun h0 => ?_, ?_, ?_, fun _ => ⟨w.heap.size, upd_on, hs, fun _ => alloc_new _ _, fun h1 => by rw [beq_off (by decide), h14] at h1; cases h1⟩⟩
  · rw [beq_off (by decide)] at h0
    obtain ⟨b, e, hb, hc⟩ := h.r5 h0
    exact ⟨b, by rw [upd_off (by decide)]; exact e, hb, alloc_old hc⟩
  · rw [beq_off (by decide)] at h0
    obtain ⟨b, e, hb, hc⟩ := h.r11 h0
    exact ⟨b, by rw [upd_off (by decide)]; exact e, hb, alloc_old hc⟩
  · rw [beq_off (by decide), beq_off (by decide), upd_off (by decide), upd_off (by decide)]; exact h.ne
  · rw [beq_off (by decide), upd_off (by decide), upd_off (by decide), upd_off (by decide)]; exact h.r12
theorem info74 : (Try.prog.info? 74).map (·.size) = some 2 := by kernel_rfl
theorem two_get {w : World} {m : Nat} {x y u v : Value} (h : w.heap[m]? = some (.cells #[x, y] 74 (0, 0))) : (w.setCells m 0 [u, v]).heap[m]? = some (.cells #[u, v] 74 (0, 0)) := by
  simp [World.setCells, World.setCell, Array.getElem?_modify, h]
theorem two_other (w : World) (m : Nat) (u v : Value) (k : Nat) (hk : k ≠ m) : (w.setCells m 0 [u, v]).heap[k]? = w.heap[k]? := by
  have e : w.setCells m 0 [u, v] = (w.setCell ⟨m, 0, none⟩ u).setCell ⟨m, 1, none⟩ v := rfl
  rw [e, Below.heap_setCell _ ⟨m, 1, none⟩ v k hk, Below.heap_setCell _ ⟨m, 0, none⟩ u k hk]
theorem st_run (m : Nat) (A B : Option Addr) (n1 n2 c1 c2 : Nat) (w : World) (x y : Value) (h : w.heap[m]? = some (.cells #[x, y] 74 (0, 0))) :
    (Instr.storeAt 74 (.pointer (some ⟨m, 0, none⟩)) (.agg #[.slice A n1 c1, .slice B n2 c2])).run Try.prog w = .ok () (w.setCells m 0 [.slice A n1 c1, .slice B n2 c2]) := by
  refine run_storeAt_mid (P := Try.prog) w m 0 74 #[.slice A n1 c1, .slice B n2 c2] (fun j hj => ?_) info74 (by kernel_rfl)
  have : j = 0 ∨ j = 1 := by simp at hj; omega
  unfold World.cell? World.frozen?
  rw [h]
  rcases this with rfl | rfl <;> simp
theorem R8.store {n1 n2 : Nat} {w0 : World} {L : Nat → Bool} {vs : Nat → Value} {w : World} (h : R8 n1 n2 w0 L vs w) (v : Value) (m : Nat) (e13 : vs 13 = .pointer (some ⟨m, 0, none⟩)) (h13 : L 13 = true) (h14 : L 14 = false) :
    R8 n1 n2 w0 (fun j => j == 14 || L j) (Sp.upd vs 14 v) (w.setCells m 0 [vs 5, vs 11]) := by
  obtain ⟨m', e, hb, hc, _⟩ := h.r13 h13
  have hc := hc h14
  rw [e13] at e
  simp only [Value.pointer.injEq, Option.some.injEq, Addr.mk.injEq, and_true] at e
  subst e
  have hs : (w.setCells m 0 [vs 5, vs 11]).heap.size = w.heap.size := by simp [World.setCells, World.setCell]
  refine ⟨⟨h.bel.os, h.bel.tape, h.bel.output, by rw [hs]; exact h.bel.size, fun k hk => by rw [two_other _ _ _ _ _ (by omega)]; exact h.bel.block k hk⟩, fun h0 => ?_, fun h0 => ?_, ?_, ?_, fun h0 => ?_⟩
  · rw [beq_off (by decide)] at h0
    obtain ⟨b, e, hb, hc1⟩ := h.r5 h0
    refine ⟨b, by rw [upd_off (by decide)]; exact e, hb, ?_⟩
    rw [two_other _ _ _ _ _ (by rintro rfl; rw [hc] at hc1; simp at hc1)]
    exact hc1
  · rw [beq_off (by decide)] at h0
    obtain ⟨b, e, hb, hc1⟩ := h.r11 h0
    refine ⟨b, by rw [upd_off (by decide)]; exact e, hb, ?_⟩
    rw [two_other _ _ _ _ _ (by rintro rfl; rw [hc] at hc1; simp at hc1)]
    exact hc1
  · rw [beq_off (by decide), beq_off (by decide), upd_off (by decide), upd_off (by decide)]; exact h.ne
  · rw [beq_off (by decide), upd_off (by decide), upd_off (by decide), upd_off (by decide)]; exact h.r12
  · refine ⟨m, by rw [upd_off (by decide)]; exact e13, hb, fun h1 => by simp at h1, fun _ => ?_⟩
    rw [upd_off (by decide), upd_off (by decide)]
    exact two_get hc
/-- Numbers as cells. -/
def nums (xs : List Int) : List Value := xs.map fun x => .int .u8 x
theorem info5s : (Try.prog.info? 5).map (·.size) = some 1 := by kernel_rfl
/-- But for one block, and new ones, nothing has turned. -/
structure Save (b : Nat) (w w' : World) : Prop where
  os : w'.os = w.os
  tape : w'.tape = w.tape
  output : w'.output = w.output
  size : w'.heap.size = w.heap.size
  block : ∀ k, k ≠ b → w'.heap[k]? = w.heap[k]?
theorem wpList_copy_lies {ops : Array Oper} {rest : List Oper} {o : Oper} {a : Act} {w : World} {Q : Exit → Act → World → Prop} (hgd : o.guard = none) (d s : Operand)
    (ho : o.op = .call { callee := .builtin .copy, args := #[d, s], argTypes := #[22, 22] }) (b n c : Nat) (A : Option Addr) (xs : List Int) (hd : a.eval d = .slice (some ⟨b, 0, none⟩) n n) (hs : a.eval s = .slice A n c)
    (hg : w.heap[b]? = some (.cells (zeros n).toArray 5 (0, 0))) (hl : Lies w A n xs)
    (h : ∀ w', w'.heap[b]? = some (.cells (nums xs).toArray 5 (0, 0)) → Save b w w' → wpList Try.prog ops Q rest (a.put o.dst (goInt n)) w') : wpList Try.prog ops Q (o :: rest) a w := by
  by_cases h0 : n = 0
  · subst h0
    obtain rfl : xs = [] := List.eq_nil_of_length_eq_zero hl.1
    exact wpList_copy_nothing hgd d s 22 22 ho 5 Try.underlying22 info5s _ _ 0 0 0 c hd hs rfl (h w hg ⟨rfl, rfl, rfl, rfl, fun _ _ => rfl⟩)
  obtain ⟨b', o', rfl, _, hc⟩ := hl.2 (by omega)
  have hlen : (nums xs).length = n := by unfold nums; rw [List.length_map]; exact hl.1
  have hz : (zeros n).length = n := by unfold zeros; exact List.length_replicate
  refine wpList_copy_own hgd d s 22 22 ho 5 Try.underlying22 info5s b 0 n n ⟨b', o', none⟩ n c hd hs (zeros n).toArray 5 hg (nums xs) (by rw [hlen]; exact (Nat.min_self n).symm) (fun j v hj => ?_) (by rw [hlen]; simp [hz]) (fun v hv => by unfold nums at hv; rw [List.mem_map] at hv; obtain ⟨x, _, rfl⟩ := hv; rfl) ?_
  · have hjn : j < n := by rw [← hlen]; exact (List.getElem?_eq_some_iff.1 hj).1
    rw [Go.WideShapes.add_plain, hc j hjn, ← hj]
    unfold nums
    rw [List.getElem?_map, List.getD_eq_getElem?_getD, List.getElem?_eq_getElem (by rw [hl.1]; exact hjn)]
    rfl
  · rw [hlen]
    have e : (List.take 0 (zeros n).toArray.toList ++ (nums xs ++ List.drop (0 + n) (zeros n).toArray.toList)).toArray = (nums xs).toArray := by
      rw [List.take_zero, List.nil_append, List.drop_eq_nil_of_le (by simp [hz]), List.append_nil]
    rw [e]
    refine h _ ?_ ⟨rfl, rfl, rfl, by simp [World.setRow], fun k hk => setRow_other w b k _ hk⟩
    simp [World.setRow, Array.getElem?_modify, hg]
end Go.Proofs.Ytccmflnkhabilaa.Tg
