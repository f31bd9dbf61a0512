/- An emitter is initialized, in whatever order its rows are made: the walk. -/
import Derived.Test.YtcmnjnogdpejfaaDoorRows
import Derived.Test.YtcmnjnogdpejfaaDoorInv
import Derived.WalkKit
import Derived.WalkSpells
import Derived.WalkLawsBesides
import Derived.Lib.Hide
import Derived.Deep.MidRow
import Derived.Below
namespace Go.Proofs.YtcmnjnogdpejfaaDoor.Em
open Go.RowKit Go.Proofs.YtcmnjnogdpejfaaDoor.Inv
set_option linter.unusedVariables false
/-- The cells that a make lays. -/
noncomputable def laid (t : TypeId) (n c : Int) : Obj := match (Instr.makeSlice t (.int .i64 n) (.int .i64 c)).run Tryd.prog (default : World) with
  | .ok _ w => (w.heap[0]?).getD default
  | _ => default
theorem mk1 (w : World) : (Instr.makeSlice 26 (.int .i64 128) (.int .i64 128)).run Tryd.prog w = .ok (.slice (some ⟨w.heap.size, 0, none⟩) 128 128) (w.alloc (laid 26 128 128)) := by kernel_rfl
theorem mk2 (w : World) : (Instr.makeSlice 26 (.int .i64 0) (.int .i64 258)).run Tryd.prog w = .ok (.slice (some ⟨w.heap.size, 0, none⟩) 0 258) (w.alloc (laid 26 0 258)) := by kernel_rfl
theorem mk3 (w : World) : (Instr.makeSlice 49 (.int .i64 0) (.int .i64 16)).run Tryd.prog w = .ok (.slice (some ⟨w.heap.size, 0, none⟩) 0 16) (w.alloc (laid 49 0 16)) := by kernel_rfl
theorem mk4 (w : World) : (Instr.makeSlice 50 (.int .i64 0) (.int .i64 16)).run Tryd.prog w = .ok (.slice (some ⟨w.heap.size, 0, none⟩) 0 16) (w.alloc (laid 50 0 16)) := by kernel_rfl
theorem info66 : (Tryd.prog.info? 61).map (·.size) = some 55 := by kernel_rfl
/-- The zero of an emitter. -/
noncomputable def zeroE : Array Value := match (Instr.build 61 #[]).run Tryd.prog (default : World) with
  | .ok (.agg c) _ => c
  | _ => #[]
noncomputable def eInit (a b c d : Value) : Array Value := ((((zeroE.setIfInBounds 5 a).setIfInBounds 7 b).setIfInBounds 16 c).setIfInBounds 17 d).setIfInBounds 12 (.int .i64 (-1))
theorem bld0 (w : World) : (Instr.build 61 #[]).run Tryd.prog w = .ok (.agg zeroE) w := by kernel_rfl
theorem bld (a b c d : Option Addr) (n1 n2 n3 n4 c1 c2 c3 c4 : Nat) (w : World) : (Instr.build 61 #[(5, .slice a n1 c1), (7, .slice b n2 c2), (16, .slice c n3 c3), (17, .slice d n4 c4), (12, .int .i64 (-1))]).run Tryd.prog w = .ok (.agg (eInit (.slice a n1 c1) (.slice b n2 c2) (.slice c n3 c3) (.slice d n4 c4))) w := by kernel_rfl
theorem eInit_size (a b c d : Value) : (eInit a b c d).size = 55 := by unfold eInit; simp only [Array.size_setIfInBounds]; kernel_rfl
theorem eInit_one (a b c d : Option Addr) (n1 n2 n3 n4 c1 c2 c3 c4 : Nat) : (eInit (.slice a n1 c1) (.slice b n2 c2) (.slice c n3 c3) (.slice d n4 c4)).all (·.oneCell') = true := by kernel_rfl
/-- A row of its own, made in this call. -/
def Made (w0 w : World) (v : Value) (n c : Nat) (o : Obj) : Prop := ∃ b, v = .slice (some ⟨b, 0, none⟩) n c ∧ w0.heap.size ≤ b ∧ b < w.heap.size ∧ w.heap[b]? = some o
theorem Made.alloc {w0 w : World} {v : Value} {n c : Nat} {o : Obj} (h : Made w0 w v n c o) (o' : Obj) : Made w0 (w.alloc o') v n c o := by
  obtain ⟨b, rfl, h1, h2, h3⟩ := h
  exact ⟨b, rfl, h1, by simp; omega, by rw [Below.heap_alloc _ _ _ h2]; exact h3⟩
theorem wpOp_value {P : Program} {ops : Array Oper} {Q : Exit → Act → World → Prop} {K : Act → World → Prop} {a : Act} {w w' : World} {i : Nat} {o : Oper} {v : Value} (d : Nat) (ho : ops[i]? = some o) (hg : o.guard = none) (hd : o.dst = some d)
    (hx : (execOp a.eval o).run P w = .ok (.value v) w') (h : K (a.put (some d) v) w') : wpOp P ops Q i K a w := by
  unfold wpOp
  rw [ho]
  simp only [Region.wanted, hg, if_true]
  left
  unfold Oper.wp
  rw [hx, Oper.upon_value, hd]
  exact h
theorem wpOp_skip {P : Program} {ops : Array Oper} {Q : Exit → Act → World → Prop} {K : Act → World → Prop} {a : Act} {w w' : World} {i : Nat} {o : Oper} (ho : ops[i]? = some o) (hg : o.guard = none) (hd : o.dst = none)
    (hx : (execOp a.eval o).run P w = .ok .skip w') (h : K a w') : wpOp P ops Q i K a w := by
  unfold wpOp
  rw [ho]
  simp only [Region.wanted, hg, if_true]
  left
  unfold Oper.wp
  rw [hx, Oper.upon_skip, hd]
  exact h
theorem getD_put_same {a : Act} {d : Nat} (v : Value) (h : d < a.tmps.size) : (a.put (some d) v).tmps.getD d undef = v := by
  simp [Act.put, Array.getD_eq_getD_getElem?, Array.getElem?_setIfInBounds_self_of_lt h]
theorem getD_put_ne {a : Act} {d k : Nat} (v : Value) (h : d ≠ k) : (a.put (some d) v).tmps.getD k undef = a.tmps.getD k undef := by
  simp [Act.put, Array.getD_eq_getD_getElem?, Array.getElem?_setIfInBounds_ne h]
/-- But for block p, and new blocks, nothing has turned. -/
structure Ext (p : Nat) (w w' : World) : Prop where
  os : w'.os = w.os
  tape : w'.tape = w.tape
  output : w'.output = w.output
  size : w.heap.size ≤ w'.heap.size
  block : ∀ k, k < w.heap.size → k ≠ p → w'.heap[k]? = w.heap[k]?
theorem Ext.refl (p : Nat) (w : World) : Ext p w w := ⟨rfl, rfl, rfl, Nat.le_refl _, fun _ _ _ => rfl⟩
theorem Ext.trans {p : Nat} {a b c : World} (h : Ext p a b) (k : Ext p b c) : Ext p a c :=
  ⟨k.os.trans h.os, k.tape.trans h.tape, k.output.trans h.output, Nat.le_trans h.size k.size, fun i hi hp => (k.block i (by have := h.size; omega) hp).trans (h.block i hi hp)⟩
theorem Ext.of_below {p : Nat} {a b : World} (h : Below a.heap.size a b) : Ext p a b := ⟨h.os, h.tape, h.output, h.size, fun k hk _ => h.block k hk⟩
theorem Ext.below {p B : Nat} {a b : World} (h : Ext p a b) (hB : B ≤ p) (hs : B ≤ a.heap.size) : Below B a b := ⟨h.os, h.tape, h.output, h.size, fun k hk => h.block k (by omega) (by omega)⟩
theorem setCells_frame (b : Nat) : ∀ (vs : List Value) (o : Nat) (w : World), (w.setCells b o vs).os = w.os ∧ (w.setCells b o vs).tape = w.tape ∧ (w.setCells b o vs).output = w.output ∧ (w.setCells b o vs).heap.size = w.heap.size ∧ ∀ k, k ≠ b → (w.setCells b o vs).heap[k]? = w.heap[k]? := by
  intro vs
  induction vs with
  | nil => intro o w; exact ⟨rfl, rfl, rfl, rfl, fun _ _ => rfl⟩
  | cons v vs ih =>
    intro o w
    obtain ⟨h1, h2, h3, h4, h5⟩ := ih (o + 1) (w.setCell ⟨b, o, none⟩ v)
    refine ⟨h1, h2, h3, h4.trans (by simp [World.setCell]), fun k hk => (h5 k hk).trans (Below.heap_setCell _ _ _ _ hk)⟩
theorem Ext.setCells {p : Nat} (w : World) (o : Nat) (vs : List Value) : Ext p w (w.setCells p o vs) := by
  obtain ⟨h1, h2, h3, h4, h5⟩ := setCells_frame p vs o w
  exact ⟨h1, h2, h3, by omega, fun k _ hk => h5 k hk⟩
theorem there_ext {p n : Nat} {a b : World} (h : a.there p 0 n) (hb : Below a.heap.size a b) (hp : p < a.heap.size) : b.there p 0 n := by
  intro j hj
  have := h j hj
  rw [hb.cell (p := ⟨p, 0 + j, none⟩) hp, hb.frozen (p := ⟨p, 0 + j, none⟩) hp]
  exact this
/-- What holds when these operations have been carried out. -/
structure J (p : Nat) (w0 : World) (l : Array Bool) (a : Act) (w : World) : Prop where
  defers : a.defers = []
  size : a.tmps.size = 9
  t0 : a.tmps.getD 0 undef = .pointer (some ⟨p, 0, none⟩)
  b0 : l[0]?.getD true = true → a.tmps.getD 2 undef = .pointer (some ⟨p, 0, none⟩)
  b1 : l[1]?.getD true = true → Made w0 w (a.tmps.getD 3 undef) 128 128 (laid 26 128 128)
  b2 : l[2]?.getD true = true → Made w0 w (a.tmps.getD 4 undef) 0 258 (laid 26 0 258)
  b3 : l[3]?.getD true = true → Made w0 w (a.tmps.getD 5 undef) 0 16 (laid 49 0 16)
  b4 : l[4]?.getD true = true → Made w0 w (a.tmps.getD 6 undef) 0 16 (laid 50 0 16)
  b5 : l[5]?.getD true = true → a.tmps.getD 7 undef = .agg (eInit (a.tmps.getD 3 undef) (a.tmps.getD 4 undef) (a.tmps.getD 5 undef) (a.tmps.getD 6 undef))
  b6 : l[6]?.getD true = true → a.tmps.getD 8 undef = .pointer (some ⟨p, 0, none⟩)
  b7 : l[7]?.getD true = false → Below w0.heap.size w0 w
  b8 : l[7]?.getD true = true → w.rangeAt p 0 (eInit (a.tmps.getD 3 undef) (a.tmps.getD 4 undef) (a.tmps.getD 5 undef) (a.tmps.getD 6 undef)).toList
  b9 : Ext p w0 w
  b11 : l[7]?.getD true = true → ∀ k, k < 7 → l[k]?.getD true = true
  b12 : l[5]?.getD true = true → ∀ k, 1 ≤ k → k < 5 → l[k]?.getD true = true
  b13 : l[7]?.getD true = true → w.there p 0 55
/-- An emitter in its first state. -/
def Started (p : Nat) (w : World) (e : Ending) (w' : World) : Prop := ∃ v1 v2 v3 v4, e = .returned (.tuple #[]) ∧ Made w w' v1 128 128 (laid 26 128 128) ∧ Made w w' v2 0 258 (laid 26 0 258) ∧ Made w w' v3 0 16 (laid 49 0 16) ∧ Made w w' v4 0 16 (laid 50 0 16) ∧ w'.rangeAt p 0 (eInit v1 v2 v3 v4).toList ∧ w'.there p 0 55 ∧ Ext p w w'
set_option maxHeartbeats 2000000 in
set_option maxRecDepth 100000 in
theorem init_any (p : Nat) (w : World) (hp : p < w.heap.size) (ht : w.there p 0 55) :
    Calls Tryd.prog 25 #[.pointer (some ⟨p, 0, none⟩)] w (Started p w) := by
  go_enter Tryd.func25, Tryd.ntmps25
  refine wp_region_inv (by kernel_rfl) (J p w) ?_ ?_ ?_
  · constructor
    all_goals simp
    · exact (Below.refl _ _).drew
    · exact ⟨rfl, rfl, rfl, Nat.le_refl _, fun _ _ _ => rfl⟩
  · intro l a w1 hs hJ i hi
    have hlt := (not_listed hi).1
    have hcases : i = 0 ∨ i = 1 ∨ i = 2 ∨ i = 3 ∨ i = 4 ∨ i = 5 ∨ i = 6 ∨ i = 7 := by simp at hlt; omega
    have hs' : l.size = 8 := by simpa using hs
    have ne : ∀ k j, k ≠ j → ((l.setIfInBounds k true)[j]?.getD true) = (l[j]?.getD true) := fun k j h => by rw [Array.getElem?_setIfInBounds_ne h]
    have hge : w.heap.size ≤ w1.heap.size := hJ.b9.size
    have gd : ∀ k, k < 8 → (l[k]?.getD false) = (l[k]?.getD true) := fun k hk => by rw [Array.getElem?_eq_getElem (by omega)]; rfl
    have st : ∀ k j, l[j]?.getD true = true → ((l.setIfInBounds k true)[j]?.getD true) = true := fun k j h => by
      by_cases e : k = j
      · subst e; by_cases hk : k < l.size
        · rw [Array.getElem?_setIfInBounds_self_of_lt hk]; rfl
        · rw [Array.getElem?_eq_none (by simp; omega)]; rfl
      · rw [ne _ _ e]; exact h
    rcases hcases with rfl | rfl | rfl | rfl | rfl | rfl | rfl | rfl
    · simp [Region.ready, Region.binds] at hi
      have h7 : l[7]?.getD true = false := by
        cases h : l[7]?.getD true with
        | false => rfl
        | true => exact (by have := hJ.b11 h 0 (by omega); rw [hi] at this; cases this)
      refine wpOp_value 2 rfl rfl rfl (v := (.pointer (some ⟨p, 0, none⟩))) (w' := w1) (by simp [execOp, Act.eval, hJ.t0, go_sem]) ?_
      have hd : (2 : Nat) < a.tmps.size := by rw [hJ.size]; omega
      constructor
      · exact hJ.defers
      · simp [Act.put, hJ.size]
      · rw [getD_put_ne _ (by decide)]; exact hJ.t0
      · intro _; exact getD_put_same _ hd
      · rw [ne _ _ (by decide), getD_put_ne _ (by decide)]; exact hJ.b1
      · rw [ne _ _ (by decide), getD_put_ne _ (by decide)]; exact hJ.b2
      · rw [ne _ _ (by decide), getD_put_ne _ (by decide)]; exact hJ.b3
      · rw [ne _ _ (by decide), getD_put_ne _ (by decide)]; exact hJ.b4
      · rw [ne _ _ (by decide), getD_put_ne _ (by decide), getD_put_ne _ (by decide), getD_put_ne _ (by decide), getD_put_ne _ (by decide), getD_put_ne _ (by decide)]; exact hJ.b5
      · rw [ne _ _ (by decide), getD_put_ne _ (by decide)]; exact hJ.b6
      · rw [ne _ _ (by decide)]; exact hJ.b7
      · rw [ne _ _ (by decide), getD_put_ne _ (by decide), getD_put_ne _ (by decide), getD_put_ne _ (by decide), getD_put_ne _ (by decide)]; exact hJ.b8
      · exact hJ.b9
      · rw [ne _ _ (by decide)]; exact fun h k hk => st _ _ (hJ.b11 h k hk)
      · rw [ne _ _ (by decide)]; exact fun h k h1 h2 => st _ _ (hJ.b12 h k h1 h2)
      · rw [ne _ _ (by decide)]; intro h8; rw [h7] at h8; cases h8
    · simp [Region.ready, Region.binds] at hi
      have h7 : l[7]?.getD true = false := by
        cases h : l[7]?.getD true with
        | false => rfl
        | true => exact (by have := hJ.b11 h 1 (by omega); rw [hi] at this; cases this)
      refine wpOp_value 3 rfl rfl rfl (v := (.slice (some ⟨w1.heap.size, 0, none⟩) 128 128)) (w' := (w1.alloc (laid 26 128 128))) (by simp [execOp, Act.eval, mk1]) ?_
      have hd : (3 : Nat) < a.tmps.size := by rw [hJ.size]; omega
      constructor
      · exact hJ.defers
      · simp [Act.put, hJ.size]
      · rw [getD_put_ne _ (by decide)]; exact hJ.t0
      · rw [ne _ _ (by decide), getD_put_ne _ (by decide)]; exact hJ.b0
      · intro _; rw [getD_put_same _ hd]; exact ⟨_, rfl, hge, by simp, by show (w1.heap.push _)[w1.heap.size]? = _; simp⟩
      · rw [ne _ _ (by decide), getD_put_ne _ (by decide)]; exact fun h => (hJ.b2 h).alloc _
      · rw [ne _ _ (by decide), getD_put_ne _ (by decide)]; exact fun h => (hJ.b3 h).alloc _
      · rw [ne _ _ (by decide), getD_put_ne _ (by decide)]; exact fun h => (hJ.b4 h).alloc _
      · intro h5; rw [ne _ _ (by decide)] at h5; have := hJ.b12 h5 1 (by omega) (by omega); rw [hi] at this; cases this
      · rw [ne _ _ (by decide), getD_put_ne _ (by decide)]; exact hJ.b6
      · rw [ne _ _ (by decide)]; exact fun h => (hJ.b7 h).alloc hge _
      · intro h8; rw [ne _ _ (by decide), h7] at h8; cases h8
      · exact hJ.b9.trans (.of_below ((Below.refl _ _).alloc (Nat.le_refl _) _))
      · rw [ne _ _ (by decide)]; exact fun h k hk => st _ _ (hJ.b11 h k hk)
      · rw [ne _ _ (by decide)]; exact fun h k h1 h2 => st _ _ (hJ.b12 h k h1 h2)
      · rw [ne _ _ (by decide)]; intro h8; rw [h7] at h8; cases h8
    · simp [Region.ready, Region.binds] at hi
      have h7 : l[7]?.getD true = false := by
        cases h : l[7]?.getD true with
        | false => rfl
        | true => exact (by have := hJ.b11 h 2 (by omega); rw [hi] at this; cases this)
      refine wpOp_value 4 rfl rfl rfl (v := (.slice (some ⟨w1.heap.size, 0, none⟩) 0 258)) (w' := (w1.alloc (laid 26 0 258))) (by simp [execOp, Act.eval, mk2]) ?_
      have hd : (4 : Nat) < a.tmps.size := by rw [hJ.size]; omega
      constructor
      · exact hJ.defers
      · simp [Act.put, hJ.size]
      · rw [getD_put_ne _ (by decide)]; exact hJ.t0
      · rw [ne _ _ (by decide), getD_put_ne _ (by decide)]; exact hJ.b0
      · rw [ne _ _ (by decide), getD_put_ne _ (by decide)]; exact fun h => (hJ.b1 h).alloc _
      · intro _; rw [getD_put_same _ hd]; exact ⟨_, rfl, hge, by simp, by show (w1.heap.push _)[w1.heap.size]? = _; simp⟩
      · rw [ne _ _ (by decide), getD_put_ne _ (by decide)]; exact fun h => (hJ.b3 h).alloc _
      · rw [ne _ _ (by decide), getD_put_ne _ (by decide)]; exact fun h => (hJ.b4 h).alloc _
      · intro h5; rw [ne _ _ (by decide)] at h5; have := hJ.b12 h5 2 (by omega) (by omega); rw [hi] at this; cases this
      · rw [ne _ _ (by decide), getD_put_ne _ (by decide)]; exact hJ.b6
      · rw [ne _ _ (by decide)]; exact fun h => (hJ.b7 h).alloc hge _
      · intro h8; rw [ne _ _ (by decide), h7] at h8; cases h8
      · exact hJ.b9.trans (.of_below ((Below.refl _ _).alloc (Nat.le_refl _) _))
      · rw [ne _ _ (by decide)]; exact fun h k hk => st _ _ (hJ.b11 h k hk)
      · rw [ne _ _ (by decide)]; exact fun h k h1 h2 => st _ _ (hJ.b12 h k h1 h2)
      · rw [ne _ _ (by decide)]; intro h8; rw [h7] at h8; cases h8
    · simp [Region.ready, Region.binds] at hi
      have h7 : l[7]?.getD true = false := by
        cases h : l[7]?.getD true with
        | false => rfl
        | true => exact (by have := hJ.b11 h 3 (by omega); rw [hi] at this; cases this)
      refine wpOp_value 5 rfl rfl rfl (v := (.slice (some ⟨w1.heap.size, 0, none⟩) 0 16)) (w' := (w1.alloc (laid 49 0 16))) (by simp [execOp, Act.eval, mk3]) ?_
      have hd : (5 : Nat) < a.tmps.size := by rw [hJ.size]; omega
      constructor
      · exact hJ.defers
      · simp [Act.put, hJ.size]
      · rw [getD_put_ne _ (by decide)]; exact hJ.t0
      · rw [ne _ _ (by decide), getD_put_ne _ (by decide)]; exact hJ.b0
      · rw [ne _ _ (by decide), getD_put_ne _ (by decide)]; exact fun h => (hJ.b1 h).alloc _
      · rw [ne _ _ (by decide), getD_put_ne _ (by decide)]; exact fun h => (hJ.b2 h).alloc _
      · intro _; rw [getD_put_same _ hd]; exact ⟨_, rfl, hge, by simp, by show (w1.heap.push _)[w1.heap.size]? = _; simp⟩
      · rw [ne _ _ (by decide), getD_put_ne _ (by decide)]; exact fun h => (hJ.b4 h).alloc _
      · intro h5; rw [ne _ _ (by decide)] at h5; have := hJ.b12 h5 3 (by omega) (by omega); rw [hi] at this; cases this
      · rw [ne _ _ (by decide), getD_put_ne _ (by decide)]; exact hJ.b6
      · rw [ne _ _ (by decide)]; exact fun h => (hJ.b7 h).alloc hge _
      · intro h8; rw [ne _ _ (by decide), h7] at h8; cases h8
      · exact hJ.b9.trans (.of_below ((Below.refl _ _).alloc (Nat.le_refl _) _))
      · rw [ne _ _ (by decide)]; exact fun h k hk => st _ _ (hJ.b11 h k hk)
      · rw [ne _ _ (by decide)]; exact fun h k h1 h2 => st _ _ (hJ.b12 h k h1 h2)
      · rw [ne _ _ (by decide)]; intro h8; rw [h7] at h8; cases h8
    · simp [Region.ready, Region.binds] at hi
      have h7 : l[7]?.getD true = false := by
        cases h : l[7]?.getD true with
        | false => rfl
        | true => exact (by have := hJ.b11 h 4 (by omega); rw [hi] at this; cases this)
      refine wpOp_value 6 rfl rfl rfl (v := (.slice (some ⟨w1.heap.size, 0, none⟩) 0 16)) (w' := (w1.alloc (laid 50 0 16))) (by simp [execOp, Act.eval, mk4]) ?_
      have hd : (6 : Nat) < a.tmps.size := by rw [hJ.size]; omega
      constructor
      · exact hJ.defers
      · simp [Act.put, hJ.size]
      · rw [getD_put_ne _ (by decide)]; exact hJ.t0
      · rw [ne _ _ (by decide), getD_put_ne _ (by decide)]; exact hJ.b0
      · rw [ne _ _ (by decide), getD_put_ne _ (by decide)]; exact fun h => (hJ.b1 h).alloc _
      · rw [ne _ _ (by decide), getD_put_ne _ (by decide)]; exact fun h => (hJ.b2 h).alloc _
      · rw [ne _ _ (by decide), getD_put_ne _ (by decide)]; exact fun h => (hJ.b3 h).alloc _
      · intro _; rw [getD_put_same _ hd]; exact ⟨_, rfl, hge, by simp, by show (w1.heap.push _)[w1.heap.size]? = _; simp⟩
      · intro h5; rw [ne _ _ (by decide)] at h5; have := hJ.b12 h5 4 (by omega) (by omega); rw [hi] at this; cases this
      · rw [ne _ _ (by decide), getD_put_ne _ (by decide)]; exact hJ.b6
      · rw [ne _ _ (by decide)]; exact fun h => (hJ.b7 h).alloc hge _
      · intro h8; rw [ne _ _ (by decide), h7] at h8; cases h8
      · exact hJ.b9.trans (.of_below ((Below.refl _ _).alloc (Nat.le_refl _) _))
      · rw [ne _ _ (by decide)]; exact fun h k hk => st _ _ (hJ.b11 h k hk)
      · rw [ne _ _ (by decide)]; exact fun h k h1 h2 => st _ _ (hJ.b12 h k h1 h2)
      · rw [ne _ _ (by decide)]; intro h8; rw [h7] at h8; cases h8
    · simp [Region.ready, Region.binds] at hi
      have hdep : l[1]?.getD true = true ∧ l[2]?.getD true = true ∧ l[3]?.getD true = true ∧ l[4]?.getD true = true := by
        rw [← gd 1 (by omega), ← gd 2 (by omega), ← gd 3 (by omega), ← gd 4 (by omega)]; exact hi.2
      obtain ⟨q1, q2, q3, q4⟩ := hdep
      obtain ⟨x1, e1, _⟩ := hJ.b1 q1
      obtain ⟨x2, e2, _⟩ := hJ.b2 q2
      obtain ⟨x3, e3, _⟩ := hJ.b3 q3
      obtain ⟨x4, e4, _⟩ := hJ.b4 q4
      have h7 : l[7]?.getD true = false := by
        cases h : l[7]?.getD true with
        | false => rfl
        | true => exact (by have := hJ.b11 h 5 (by omega); rw [hi.1] at this; cases this)
      refine wpOp_value 7 rfl rfl rfl (v := (.agg (eInit (a.tmps.getD 3 undef) (a.tmps.getD 4 undef) (a.tmps.getD 5 undef) (a.tmps.getD 6 undef)))) (w' := w1) (by rw [Array.getD_eq_getD_getElem?] at e1 e2 e3 e4; simp [execOp, Act.eval, e1, e2, e3, e4, bld]) ?_
      have hd : (7 : Nat) < a.tmps.size := by rw [hJ.size]; omega
      constructor
      · exact hJ.defers
      · simp [Act.put, hJ.size]
      · rw [getD_put_ne _ (by decide)]; exact hJ.t0
      · rw [ne _ _ (by decide), getD_put_ne _ (by decide)]; exact hJ.b0
      · rw [ne _ _ (by decide), getD_put_ne _ (by decide)]; exact hJ.b1
      · rw [ne _ _ (by decide), getD_put_ne _ (by decide)]; exact hJ.b2
      · rw [ne _ _ (by decide), getD_put_ne _ (by decide)]; exact hJ.b3
      · rw [ne _ _ (by decide), getD_put_ne _ (by decide)]; exact hJ.b4
      · intro _; rw [getD_put_same _ hd, getD_put_ne _ (by decide), getD_put_ne _ (by decide), getD_put_ne _ (by decide), getD_put_ne _ (by decide)]
      · rw [ne _ _ (by decide), getD_put_ne _ (by decide)]; exact hJ.b6
      · rw [ne _ _ (by decide)]; exact hJ.b7
      · rw [ne _ _ (by decide), getD_put_ne _ (by decide), getD_put_ne _ (by decide), getD_put_ne _ (by decide), getD_put_ne _ (by decide)]; exact hJ.b8
      · exact hJ.b9
      · rw [ne _ _ (by decide)]; exact fun h k hk => st _ _ (hJ.b11 h k hk)
      · intro _ k h1 h2; have : k = 1 ∨ k = 2 ∨ k = 3 ∨ k = 4 := by omega
        rcases this with rfl | rfl | rfl | rfl <;> exact st _ _ (by assumption)
      · rw [ne _ _ (by decide)]; intro h8; rw [h7] at h8; cases h8
    · simp [Region.ready, Region.binds] at hi
      have h7 : l[7]?.getD true = false := by
        cases h : l[7]?.getD true with
        | false => rfl
        | true => exact (by have := hJ.b11 h 6 (by omega); rw [hi.1] at this; cases this)
      refine wpOp_value 8 rfl rfl rfl (v := (.pointer (some ⟨p, 0, none⟩))) (w' := w1) (by have h := hJ.b0 (by rw [← gd 0 (by omega)]; exact hi.2.1); simp [execOp, Act.eval, h, go_sem]) ?_
      have hd : (8 : Nat) < a.tmps.size := by rw [hJ.size]; omega
      constructor
      · exact hJ.defers
      · simp [Act.put, hJ.size]
      · rw [getD_put_ne _ (by decide)]; exact hJ.t0
      · rw [ne _ _ (by decide), getD_put_ne _ (by decide)]; exact hJ.b0
      · rw [ne _ _ (by decide), getD_put_ne _ (by decide)]; exact hJ.b1
      · rw [ne _ _ (by decide), getD_put_ne _ (by decide)]; exact hJ.b2
      · rw [ne _ _ (by decide), getD_put_ne _ (by decide)]; exact hJ.b3
      · rw [ne _ _ (by decide), getD_put_ne _ (by decide)]; exact hJ.b4
      · rw [ne _ _ (by decide), getD_put_ne _ (by decide), getD_put_ne _ (by decide), getD_put_ne _ (by decide), getD_put_ne _ (by decide), getD_put_ne _ (by decide)]; exact hJ.b5
      · intro _; exact getD_put_same _ hd
      · rw [ne _ _ (by decide)]; exact hJ.b7
      · rw [ne _ _ (by decide), getD_put_ne _ (by decide), getD_put_ne _ (by decide), getD_put_ne _ (by decide), getD_put_ne _ (by decide)]; exact hJ.b8
      · exact hJ.b9
      · rw [ne _ _ (by decide)]; exact fun h k hk => st _ _ (hJ.b11 h k hk)
      · rw [ne _ _ (by decide)]; exact fun h k h1 h2 => st _ _ (hJ.b12 h k h1 h2)
      · rw [ne _ _ (by decide)]; intro h8; rw [h7] at h8; cases h8
    · simp [Region.ready, Region.binds] at hi
      have q : ∀ k, k < 7 → l[k]?.getD true = true := by
        intro k hk
        rw [← gd k (by omega)]
        have : k = 0 ∨ k = 1 ∨ k = 2 ∨ k = 3 ∨ k = 4 ∨ k = 5 ∨ k = 6 := by omega
        rcases this with rfl | rfl | rfl | rfl | rfl | rfl | rfl <;> simp [hi]
      obtain ⟨x1, e1, _⟩ := hJ.b1 (q 1 (by omega))
      obtain ⟨x2, e2, _⟩ := hJ.b2 (q 2 (by omega))
      obtain ⟨x3, e3, _⟩ := hJ.b3 (q 3 (by omega))
      obtain ⟨x4, e4, _⟩ := hJ.b4 (q 4 (by omega))
      have e5 := hJ.b5 (q 5 (by omega))
      have e6 := hJ.b6 (q 6 (by omega))
      have hB := hJ.b7 hi.1
      rw [e1, e2, e3, e4] at e5
      rw [Array.getD_eq_getD_getElem?] at e5 e6
      have ht1 := there_ext ht hB hp
      refine wpOp_skip rfl rfl rfl (w' := w1.setCells p 0 (eInit (.slice (some ⟨x1, 0, none⟩) 128 128) (.slice (some ⟨x2, 0, none⟩) 0 258) (.slice (some ⟨x3, 0, none⟩) 0 16) (.slice (some ⟨x4, 0, none⟩) 0 16)).toList) ?_ ?_
      · have hrun := run_storeAt_mid (P := Tryd.prog) w1 p 0 61 (eInit (.slice (some ⟨x1, 0, none⟩) 128 128) (.slice (some ⟨x2, 0, none⟩) 0 258) (.slice (some ⟨x3, 0, none⟩) 0 16) (.slice (some ⟨x4, 0, none⟩) 0 16)) (by rw [eInit_size]; exact ht1) (by rw [eInit_size]; exact info66) (eInit_one _ _ _ _ _ _ _ _ _ _ _ _)
        simp [execOp, Act.eval, e5, e6, hrun]
      have hext : Ext p w (w1.setCells p 0 (eInit (.slice (some ⟨x1, 0, none⟩) 128 128) (.slice (some ⟨x2, 0, none⟩) 0 258) (.slice (some ⟨x3, 0, none⟩) 0 16) (.slice (some ⟨x4, 0, none⟩) 0 16)).toList) := hJ.b9.trans (.setCells _ _ _)
      have hmade : ∀ v n c o, Made w w1 v n c o → Made w (w1.setCells p 0 (eInit (.slice (some ⟨x1, 0, none⟩) 128 128) (.slice (some ⟨x2, 0, none⟩) 0 258) (.slice (some ⟨x3, 0, none⟩) 0 16) (.slice (some ⟨x4, 0, none⟩) 0 16)).toList) v n c o := by
        rintro v n c o ⟨b, rfl, h1, h2, h3⟩
        obtain ⟨_, _, _, h4, h5⟩ := setCells_frame p (eInit (.slice (some ⟨x1, 0, none⟩) 128 128) (.slice (some ⟨x2, 0, none⟩) 0 258) (.slice (some ⟨x3, 0, none⟩) 0 16) (.slice (some ⟨x4, 0, none⟩) 0 16)).toList 0 w1
        exact ⟨b, rfl, h1, by omega, by rw [h5 b (by omega)]; exact h3⟩
      constructor
      · exact hJ.defers
      · exact hJ.size
      · exact hJ.t0
      · exact fun _ => hJ.b0 (q 0 (by omega))
      · exact fun _ => hmade _ _ _ _ (hJ.b1 (q 1 (by omega)))
      · exact fun _ => hmade _ _ _ _ (hJ.b2 (q 2 (by omega)))
      · exact fun _ => hmade _ _ _ _ (hJ.b3 (q 3 (by omega)))
      · exact fun _ => hmade _ _ _ _ (hJ.b4 (q 4 (by omega)))
      · exact fun _ => hJ.b5 (q 5 (by omega))
      · exact fun _ => hJ.b6 (q 6 (by omega))
      · intro h; rw [Array.getElem?_setIfInBounds_self_of_lt (by omega)] at h; cases h
      · intro _
        rw [e1, e2, e3, e4]
        refine World.rangeAt_setCells_same _ _ _ _ ?_
        rw [Array.length_toList, eInit_size]; exact ht1
      · exact hext
      · exact fun _ k hk => st _ _ (q k hk)
      · exact fun _ k h1 h2 => st _ _ (q k (by omega))
      · exact fun _ => World.there_setCells ht1 _ _ _
  · intro l a w1 hs hJ hr
    have hs' : l.size = 8 := by simpa using hs
    have h7 : l[7]?.getD true = true := by
      have gd : ∀ k, k < 8 → (l[k]?.getD false) = (l[k]?.getD true) := fun k hk => by rw [Array.getElem?_eq_getElem (by omega)]; rfl
      unfold Region.ready at hr
      rw [List.filter_eq_nil_iff] at hr
      have r0 := hr 0 (by simp)
      have r1 := hr 1 (by simp)
      have r2 := hr 2 (by simp)
      have r3 := hr 3 (by simp)
      have r4 := hr 4 (by simp)
      have r5 := hr 5 (by simp)
      have r6 := hr 6 (by simp)
      have r7 := hr 7 (by simp)
      simp [Region.binds] at r0 r1 r2 r3 r4
      simp [Region.binds, gd, r1, r2, r3, r4] at r5
      simp [Region.binds, gd, r0, r1, r2, r3, r4, r5] at r6
      simp [Region.binds, gd, r0, r1, r2, r3, r4, r5, r6] at r7
      exact r7
    have q := hJ.b11 h7
    refine bodyPost_end (results_none rfl _ _ _) hJ.defers ?_
    exact ⟨_, _, _, _, rfl, hJ.b1 (q 1 (by omega)), hJ.b2 (q 2 (by omega)), hJ.b3 (q 3 (by omega)), hJ.b4 (q 4 (by omega)), hJ.b8 h7, hJ.b13 h7, hJ.b9⟩
end Go.Proofs.YtcmnjnogdpejfaaDoor.Em
