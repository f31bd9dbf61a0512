/- PaA, PaB, PaC, PaD: parts of the proof, one behind another. -/
import Derived.Test.YtocbbekciphjgaaDoorRows
import Derived.WalkKit
import Derived.WalkSpells
import Derived.WalkLawsBesides
import Derived.Lib.Hide
import Derived.Deep.MidRow
import Derived.Below
import Derived.Laws.CopyOwn
import Derived.Laws.MakeOwn
import Derived.RowKit3
import Derived.Laws.AppendOwn
import Derived.Laws.EntriesVeiled
import Derived.Handy
import Derived.Deep.QuietTactic
import Derived.BigQuiet
import Derived.StillTail
import Derived.StillTactics
import Derived.Test.YtocbbekciphjgaaDoorMz1
/- PaA -/
/- A parser of a text, as the thin package starts it: definitions, and the walk of its making. -/
namespace Go.Proofs.YtocbbekciphjgaaDoor.Pa
open Go.RowKit
set_option linter.unusedVariables false
set_option linter.unusedSimpArgs false
/-- But for these blocks, and new ones, nothing has turned. -/
structure Kp (ps : List Nat) (w w' : World) : Prop where
  os : w'.os = w.os
  tape : w'.tape = w.tape
  output : w'.output = w.output
  size : w.heap.size ≤ w'.heap.size
  block : ∀ k, k < w.heap.size → k ∉ ps → w'.heap[k]? = w.heap[k]?
theorem Kp.refl (ps : List Nat) (w : World) : Kp ps w w := ⟨rfl, rfl, rfl, Nat.le_refl _, fun _ _ _ => rfl⟩
theorem Kp.trans {ps : List Nat} {a b c : World} (h : Kp ps a b) (k : Kp ps b c) : Kp ps a c :=
  ⟨k.os.trans h.os, k.tape.trans h.tape, k.output.trans h.output, Nat.le_trans h.size k.size, fun i hi hp => (k.block i (by have := h.size; omega) hp).trans (h.block i hi hp)⟩
theorem Kp.mono {ps qs : List Nat} {a b : World} (h : Kp ps a b) (hs : ∀ k, k ∈ ps → k ∈ qs) : Kp qs a b := ⟨h.os, h.tape, h.output, h.size, fun k hk hq => h.block k hk fun hp => hq (hs k hp)⟩
theorem Kp.below {ps : List Nat} {B : Nat} {a b : World} (h : Kp ps a b) (hB : B ≤ a.heap.size) (hp : ∀ k ∈ ps, B ≤ k) : Below B a b :=
  ⟨h.os, h.tape, h.output, h.size, fun k hk => h.block k (by omega) fun hh => by have := hp k hh; omega⟩
theorem Kp.of_below {ps : List Nat} {a b : World} (h : Below a.heap.size a b) : Kp ps a b := ⟨h.os, h.tape, h.output, h.size, fun k hk _ => h.block k hk⟩
theorem Kp.drew {ps : List Nat} {a b : World} (h : Kp ps a b) : Kp ps a b.drew := ⟨h.os, h.tape, h.output, h.size, h.block⟩
theorem Kp.drewN {ps : List Nat} {a b : World} (h : Kp ps a b) (n : Nat) : Kp ps a (b.drewN n) := ⟨h.os, h.tape, h.output, h.size, h.block⟩
theorem Kp.alloc {ps : List Nat} {a b : World} (h : Kp ps a b) (o : Obj) : Kp ps a (b.alloc o) := h.trans (.of_below ((Below.refl _ _).alloc (Nat.le_refl _) _))
theorem Kp.setCell {ps : List Nat} {a b : World} (h : Kp ps a b) (p o : Nat) (v : Value) (hp : p ∈ ps) : Kp ps a (b.setCell ⟨p, o, none⟩ v) :=
  h.trans ⟨rfl, rfl, rfl, by simp [World.setCell], fun k hk hq => Below.heap_setCell _ _ _ _ fun e => hq (by rw [e]; exact hp)⟩
theorem Kp.cell {ps : List Nat} {a b : World} (h : Kp ps a b) {x : Addr} (hx : x.block < a.heap.size) (hp : x.block ∉ ps) : b.cell? x = a.cell? x := World.cell?_of_block (w := a) (h.block x.block hx hp)
theorem Kp.setRow {ps : List Nat} {a b : World} (h : Kp ps a b) (g : Nat) (cs : Array Value) (hg : g ∈ ps) : Kp ps a (b.setRow g cs) :=
  h.trans ⟨rfl, rfl, rfl, by simp [World.setRow], fun k hk hq => setRow_other b g k cs fun e => hq (by rw [e]; exact hg)⟩
theorem drewN_add (w : World) (a b : Nat) : (w.drewN a).drewN b = w.drewN (a + b) := by
  unfold World.drewN
  simp [Nat.add_assoc]
/-- A block that is known whole. -/
def Bk (w : World) (b : Nat) (t : TypeId) (L : List Value) : Prop := w.heap[b]? = some (.cells L.toArray t (0, 0))
theorem Bk.set {w : World} {b : Nat} {t : TypeId} {L : List Value} (h : Bk w b t L) (i : Nat) (v : Value) : Bk (w.setCell ⟨b, i, none⟩ v) b t (L.set i v) := by
  unfold Bk at *
  unfold World.setCell
  simp [Array.getElem?_modify, h]
theorem Bk.other {w : World} {b : Nat} {t : TypeId} {L : List Value} (h : Bk w b t L) (p i : Nat) (v : Value) (hp : b ≠ p) : Bk (w.setCell ⟨p, i, none⟩ v) b t L := (Below.heap_setCell w ⟨p, i, none⟩ v b hp).trans h
theorem Bk.cell {w : World} {b : Nat} {t : TypeId} {L : List Value} (h : Bk w b t L) (i : Nat) : w.cell? ⟨b, i, none⟩ = L[i]? ∧ w.frozen? ⟨b, i, none⟩ = false := by
  unfold Bk at h
  unfold World.cell? World.frozen?
  rw [h]
  simp
theorem Bk.lt {w : World} {b : Nat} {t : TypeId} {L : List Value} (h : Bk w b t L) : b < w.heap.size := (Array.getElem?_eq_some_iff.1 h).1
theorem Bk.kp {w w' : World} {b : Nat} {t : TypeId} {L : List Value} {ps : List Nat} (h : Bk w b t L) (hk : Kp ps w w') (hb : b ∉ ps) : Bk w' b t L := (hk.block b h.lt hb).trans h
theorem Bk.drewN {w : World} {b : Nat} {t : TypeId} {L : List Value} (h : Bk w b t L) (n : Nat) : Bk (w.drewN n) b t L := h
theorem Bk.drew {w : World} {b : Nat} {t : TypeId} {L : List Value} (h : Bk w b t L) : Bk w.drew b t L := h
theorem Bk.alloc {w : World} {b : Nat} {t : TypeId} {L : List Value} (h : Bk w b t L) (o : Obj) : Bk (w.alloc o) b t L := h.kp ((Kp.refl [] w).alloc o) (by simp)
theorem Bk.new (w : World) (L : List Value) (t : TypeId) : Bk (w.alloc (.cells L.toArray t)) w.heap.size t L := by
  show (w.heap.push _)[w.heap.size]? = _
  simp
theorem Bk.row {w : World} {b : Nat} {t : TypeId} {L : List Value} (h : Bk w b t L) (M : List Value) : Bk (w.setRow b M.toArray) b t M := setRow_heap w b L.toArray M.toArray t (0, 0) h
theorem splice_at {α : Type} (L : List α) (off : Nat) (cs : List α) (h : off + cs.length ≤ L.length) (i : Nat) :
    (splice L off cs)[i]? = if i < off then L[i]? else if i < off + cs.length then cs[i - off]? else L[i]? := by
  unfold splice
  by_cases h1 : i < off
  · rw [if_pos h1, List.getElem?_append_left (by simp; omega), List.getElem?_take_of_lt h1]
  · rw [if_neg h1, List.getElem?_append_right (by simp; omega)]
    have e : (L.take off).length = off := by simp; omega
    rw [e]
    by_cases h2 : i < off + cs.length
    · rw [if_pos h2, List.getElem?_append_left (by omega)]
    · rw [if_neg h2, List.getElem?_append_right (by omega), List.getElem?_drop]
      congr 1
      omega
theorem Bk.setCells {b : Nat} {t : TypeId} : ∀ (cs : List Value) (o : Nat) (L : List Value) (w : World), Bk w b t L → o + cs.length ≤ L.length → Bk (w.setCells b o cs) b t (splice L o cs) := by
  intro cs
  induction cs with
  | nil => intro o L w h _; rw [World.setCells]; unfold splice; simpa using h
  | cons v r ih =>
    intro o L w h hl
    rw [World.setCells]
    simp at hl
    have := ih (o + 1) _ _ (h.set o v) (by simp; omega)
    have e : splice (L.set o v) (o + 1) r = splice L o (v :: r) := by
      apply List.ext_getElem?
      intro i
      rw [splice_at _ _ _ (by simp; omega), splice_at _ _ _ (by simp; omega)]
      simp only [List.length_cons]
      by_cases h1 : i < o
      · rw [if_pos (show i < o + 1 by omega), if_pos h1, List.getElem?_set_ne (by omega)]
      · by_cases h2 : i = o
        · subst h2
          rw [if_pos (show i < i + 1 by omega), if_neg h1, if_pos (by omega), List.getElem?_set_self (by omega), Nat.sub_self]
          rfl
        · rw [if_neg (show ¬ i < o + 1 by omega), if_neg h1]
          obtain ⟨k, hk⟩ : ∃ k, i = o + 1 + k := ⟨i - (o + 1), by omega⟩
          subst hk
          rw [show o + 1 + k - (o + 1) = k by omega, show o + 1 + k - o = k + 1 by omega, List.getElem?_cons_succ, List.getElem?_set_ne (by omega)]
          by_cases h3 : k < r.length
          · rw [if_pos (by omega), if_pos (by omega)]
          · rw [if_neg (by omega), if_neg (by omega)]
    rw [e] at this
    exact this
theorem Kp.setCells {ps : List Nat} {a : World} (p : Nat) (hp : p ∈ ps) : ∀ (cs : List Value) (o : Nat) (b : World), Kp ps a b → Kp ps a (b.setCells p o cs) := by
  intro cs
  induction cs with
  | nil => intro o b h; rw [World.setCells]; exact h
  | cons v r ih => intro o b h; rw [World.setCells]; exact ih _ _ (h.setCell p o v hp)
/-! ### A parser -/
/-- The zero of a parser. -/
noncomputable def zeroP : Array Value := match (Instr.build 120 #[]).run Tryd.prog (default : World) with
  | .ok (.agg c) _ => c
  | _ => #[]
theorem bld0 (w : World) : (Instr.build 120 #[]).run Tryd.prog w = .ok (.agg zeroP) w := by kernel_rfl
theorem boxP (w : World) : (Instr.box 120 (.agg zeroP)).run Tryd.prog w = .ok (.pointer (some ⟨w.heap.size, 0, none⟩)) (w.alloc (.cells zeroP 120)) := by kernel_rfl
/-- A parser with its two buffers. -/
noncomputable def pInit (r q : Value) : Array Value := (zeroP.setIfInBounds 20 r).setIfInBounds 16 q
theorem bld (a b : Option Addr) (n1 n2 c1 c2 : Nat) (w : World) : (Instr.build 120 #[(16, .slice a n1 c1), (12, .slice b n2 c2)]).run Tryd.prog w = .ok (.agg (pInit (.slice a n1 c1) (.slice b n2 c2))) w := by kernel_rfl
theorem pInit_size (a b : Value) : (pInit a b).size = 52 := by unfold pInit; simp only [Array.size_setIfInBounds]; kernel_rfl
theorem pInit_one (a b : Option Addr) (n1 n2 c1 c2 : Nat) : (pInit (.slice a n1 c1) (.slice b n2 c2)).all (·.oneCell') = true := by kernel_rfl
theorem infoP : (Tryd.prog.info? 120).map (·.size) = some 52 := by kernel_rfl
/-- So many noughts. -/
def zeros (n : Nat) : List Value := List.replicate n (.int .u8 0)
theorem info5 : (Tryd.prog.info? 5).map (fun i => (i.zero, i.size, i.bytes)) = some (some (.int .u8 0), 1, 1) := by kernel_rfl
theorem mk_any (n : Nat) (hn : n ≤ 1000000) (w : World) : (Instr.makeSlice 22 (.int .i64 0) (.int .i64 n)).run Tryd.prog w = .ok (.slice (some ⟨w.heap.size, 0, none⟩) 0 n) (w.alloc (.cells (zeros n).toArray 5)) := by
  obtain ⟨i0, hi, hz0, hz1, hz2⟩ := info_parts info5
  have h := run_make (P := Tryd.prog) w 22 5 i0 (.int .u8 0) Tryd.underlying22 hi hz0 .i64 .i64 0 (n : Int) (by omega) (by omega) (by rw [hz2]; omega) (by omega)
  rw [h, hz1, Nat.mul_one]
  have e : madeCells (Value.int .u8 0).cells n = (zeros n).toArray := by
    unfold madeCells zeros
    apply Array.ext
    · simp
    · intro i h1 h2
      simp [Value.cells, Nat.mod_one]
  simp [e]
end Go.Proofs.YtocbbekciphjgaaDoor.Pa
/- PaB -/
/- A parser of a text, as the thin package starts it: the walks. -/
namespace Go.Proofs.YtocbbekciphjgaaDoor.Pa
open Go.RowKit
set_option linter.unusedVariables false
set_option linter.unusedSimpArgs false
/-- A row of noughts of the call's own. -/
def Own (W : World) (n : Nat) (v : Value) (w : World) : Prop := ∃ b, v = .slice (some ⟨b, 0, none⟩) 0 n ∧ W.heap.size ≤ b ∧ Bk w b 5 (zeros n)
theorem Own.kp {W w w' : World} {n p : Nat} {v : Value} (h : Own W n v w) (hk : Kp [p] w w') (hp : p < W.heap.size) : Own W n v w' := by
  obtain ⟨b, e, h1, h2⟩ := h
  exact ⟨b, e, h1, h2.kp hk (by simp; omega)⟩
/-- A parser in its first state. -/
def First (p : Nat) (W : World) (w : World) : Prop := ∃ r q, Own W 512 r w ∧ Own W 1536 q w ∧ Bk w p 120 (pInit r q).toList
theorem First.alloc {p : Nat} {W w : World} (h : First p W w) (o : Obj) : First p W (w.alloc o) := by
  obtain ⟨r, q, ⟨b1, e1, k1, m1⟩, ⟨b2, e2, k2, m2⟩, m⟩ := h
  exact ⟨r, q, ⟨b1, e1, k1, m1.alloc o⟩, ⟨b2, e2, k2, m2.alloc o⟩, m.alloc o⟩
def Si (p : Nat) (W : World) : Nat → Value → World → Prop
  | 0, v, _ => v = .pointer (some ⟨p, 0, none⟩)
  | 1, v, w => Own W 512 v w
  | 2, v, w => Own W 1536 v w
  | 3, v, w => ∃ r q, v = .agg (pInit r q) ∧ Own W 512 r w ∧ Own W 1536 q w
  | 4, v, _ => v = .pointer (some ⟨p, 0, none⟩)
  | _, _, _ => True
theorem si_mono {p : Nat} {W : World} (hp : p < W.heap.size) {i : Nat} {v : Value} {w1 w2 : World} (hk : Kp [p] w1 w2) (h : Si p W i v w1) : Si p W i v w2 := by
  unfold Si at h ⊢
  split at h
  · exact h
  · exact h.kp hk hp
  · exact h.kp hk hp
  · obtain ⟨r, q, e, h1, h2⟩ := h
    exact ⟨r, q, e, h1.kp hk hp, h2.kp hk hp⟩
  · exact h
  · exact h
theorem store_p {w : World} {p : Nat} {cur : List Value} (a b : Option Addr) (n1 n2 c1 c2 : Nat) (h : Bk w p 120 cur) (hl : cur.length = 52) :
    (Instr.storeAt 120 (.pointer (some ⟨p, 0, none⟩)) (.agg (pInit (.slice a n1 c1) (.slice b n2 c2)))).run Tryd.prog w = .ok () (w.setCells p 0 (pInit (.slice a n1 c1) (.slice b n2 c2)).toList) ∧
    Bk (w.setCells p 0 (pInit (.slice a n1 c1) (.slice b n2 c2)).toList) p 120 (pInit (.slice a n1 c1) (.slice b n2 c2)).toList := by
  have hs := pInit_size (.slice a n1 c1) (.slice b n2 c2)
  have h1 := pInit_one a b n1 n2 c1 c2
  have ht : w.there p 0 52 := fun j hj => by
    rw [Nat.zero_add, (h.cell j).1, (h.cell j).2, List.getElem?_eq_getElem (by omega)]
    exact ⟨rfl, rfl⟩
  refine ⟨?_, ?_⟩
  · generalize pInit (.slice a n1 c1) (.slice b n2 c2) = X at *
    exact run_storeAt_mid (P := Tryd.prog) w p 0 120 X (by rw [hs]; exact ht) (by rw [hs]; exact infoP) h1
  · have := Bk.setCells (pInit (.slice a n1 c1) (.slice b n2 c2)).toList 0 cur w h (by rw [Array.length_toList, hs]; omega)
    generalize pInit (.slice a n1 c1) (.slice b n2 c2) = X at *
    have e : splice cur 0 X.toList = X.toList := by
      unfold splice
      rw [List.drop_eq_nil_of_le (by rw [show X.toList.length = X.size from Array.length_toList]; omega)]
      simp
    rw [e] at this
    exact this
set_option maxHeartbeats 2000000 in
set_option maxRecDepth 100000 in
theorem init_any (p : Nat) (cur : List Value) (w : World) (h : Bk w p 120 cur) (hl : cur.length = 52) :
    Calls Tryd.prog 98 #[.pointer (some ⟨p, 0, none⟩)] w fun e w' => e = .returned (.bool true) ∧ First p w w' ∧ Kp [p] w w' := by
  have hp := h.lt
  have H := Lib.hid h
  clear h
  go_enter Tryd.func98, Tryd.ntmps98
  go_wp2_with fail
  refine Sp.region_specs_l (by kernel_rfl) _ (by kernel_rfl) (by kernel_rfl) (by kernel_rfl) rfl (by kernel_rfl) (Si p w) (fun L w' => Kp [p] w w' ∧ (L 5 = false → Bk w' p 120 cur) ∧ (L 5 = true → First p w w')) (fun w1 w2 => Kp [p] w1 w2) ⟨(Kp.refl _ _).drew, fun _ => H.out, fun h => by cases h⟩ (fun i v w1 w2 hk h => si_mono hp hk h) ?_ ?_
  · clear H
    intro i hi L a w1 hL F hI
    have hcases : i = 0 ∨ i = 1 ∨ i = 2 ∨ i = 3 ∨ i = 4 ∨ i = 5 := by have hi' : i < 6 := hi; omega
    rcases hcases with rfl | rfl | rfl | rfl | rfl | rfl
    · have d0 : a.tmps.getD 0 undef = .pointer (some ⟨p, 0, none⟩) := F.out 0 (by kernel_rfl)
      exact Sp.sp_value rfl (Sp.wanted_none rfl) (v := .pointer (some ⟨p, 0, none⟩)) (w' := w1) (by simp [execOp, Act.eval, d0, Sp.gd d0, go_sem]) ⟨hI.1, fun h => hI.2.1 (by simpa using h), fun h => hI.2.2 (by simpa using h)⟩ (Kp.refl _ _) rfl
    · refine Sp.sp_value rfl (Sp.wanted_none rfl) (v := .slice (some ⟨w1.heap.size, 0, none⟩) 0 512) (w' := w1.alloc (.cells (zeros 512).toArray 5)) (by have : (Instr.makeSlice 22 (.int .i64 0) (.int .i64 512)).run Tryd.prog w1 = _ := mk_any 512 (by omega) w1; simp [execOp, Act.eval, this, go_sem]) ⟨hI.1.alloc _, fun h => (hI.2.1 (by simpa using h)).alloc _, fun h => (hI.2.2 (by simpa using h)).alloc _⟩ (Kp.mono ((Kp.refl [] w1).alloc _) (by simp)) ⟨_, rfl, hI.1.size, Bk.new _ _ _⟩
    · refine Sp.sp_value rfl (Sp.wanted_none rfl) (v := .slice (some ⟨w1.heap.size, 0, none⟩) 0 1536) (w' := w1.alloc (.cells (zeros 1536).toArray 5)) (by have : (Instr.makeSlice 22 (.int .i64 0) (.int .i64 1536)).run Tryd.prog w1 = _ := mk_any 1536 (by omega) w1; simp [execOp, Act.eval, this, go_sem]) ⟨hI.1.alloc _, fun h => (hI.2.1 (by simpa using h)).alloc _, fun h => (hI.2.2 (by simpa using h)).alloc _⟩ (Kp.mono ((Kp.refl [] w1).alloc _) (by simp)) ⟨_, rfl, hI.1.size, Bk.new _ _ _⟩
    · have d4 := F.val 1 4 (by kernel_rfl) (by rfl)
      have d5 := F.val 2 5 (by kernel_rfl) (by rfl)
      obtain ⟨b1, e1, k1, m1⟩ := d4
      obtain ⟨b2, e2, k2, m2⟩ := d5
      have hb := bld (some ⟨b1, 0, none⟩) (some ⟨b2, 0, none⟩) 0 0 512 1536 w1
      exact Sp.sp_value rfl (Sp.wanted_none rfl) (v := .agg (pInit (.slice (some ⟨b1, 0, none⟩) 0 512) (.slice (some ⟨b2, 0, none⟩) 0 1536))) (w' := w1) (by have g1 := Sp.gd e1; have g2 := Sp.gd e2; simp [execOp, Act.eval, g1, g2, hb]) ⟨hI.1, fun h => hI.2.1 (by simpa using h), fun h => hI.2.2 (by simpa using h)⟩ (Kp.refl _ _) ⟨_, _, rfl, ⟨b1, rfl, k1, m1⟩, ⟨b2, rfl, k2, m2⟩⟩
    · have d3 : a.tmps.getD 3 undef = .pointer (some ⟨p, 0, none⟩) := F.val 0 3 (by kernel_rfl) (by rfl)
      exact Sp.sp_value rfl (Sp.wanted_none rfl) (v := .pointer (some ⟨p, 0, none⟩)) (w' := w1) (by simp [execOp, Act.eval, d3, Sp.gd d3, go_sem]) ⟨hI.1, fun h => hI.2.1 (by simpa using h), fun h => hI.2.2 (by simpa using h)⟩ (Kp.refl _ _) rfl
    · have d7 : a.tmps.getD 7 undef = .pointer (some ⟨p, 0, none⟩) := F.val 4 7 (by kernel_rfl) (by rfl)
      have d6 := F.val 3 6 (by kernel_rfl) (by rfl)
      obtain ⟨r, q, e6, o1, o2⟩ := d6
      obtain ⟨b1, rfl, k1, m1⟩ := o1
      obtain ⟨b2, rfl, k2, m2⟩ := o2
      have hcur := hI.2.1 hL
      have hst := store_p (some ⟨b1, 0, none⟩) (some ⟨b2, 0, none⟩) 0 0 512 1536 hcur hl
      generalize hX : pInit (.slice (some ⟨b1, 0, none⟩) 0 512) (.slice (some ⟨b2, 0, none⟩) 0 1536) = X at hst e6
      generalize hW : w1.setCells p 0 X.toList = W2 at hst
      have g6 := Sp.gd e6
      have g7 := Sp.gd d7
      have hkp : Kp [p] w1 W2 := by rw [← hW]; exact Kp.setCells p (by simp) _ _ _ (Kp.refl _ _)
      have hst1 := hst.1
      exact Sp.sp_store rfl (Sp.wanted_none rfl) (w' := W2) (by simp [execOp, Act.eval, g6, g7, hst1]) ⟨hI.1.trans hkp, fun h => by simp at h, fun _ => ⟨_, _, ⟨b1, rfl, k1, m1.kp hkp (by simp; omega)⟩, ⟨b2, rfl, k2, m2.kp hkp (by simp; omega)⟩, by rw [hX]; exact hst.2⟩⟩ hkp trivial
  · intro val L w1 hall hI hS
    obtain ⟨hK, -, hF⟩ := hI
    have hF2 := hF (hall 5 (by decide))
    simp only [Sp.setAll, List.setIfInBounds_toArray, List.set_cons_zero, List.set_cons_succ]
    clear hS hF hall
    have HF := Lib.hid hF2
    have HK := Lib.hid hK
    clear hF2 hK
    go_wp2_with fail
    go_ret
    exact ⟨rfl, HF.out, HK.out⟩
end Go.Proofs.YtocbbekciphjgaaDoor.Pa
/- PaC -/
/- A parser of a text, as the thin package starts it: the walks. -/
namespace Go.Proofs.YtocbbekciphjgaaDoor.Pa
open Go.RowKit
set_option linter.unusedVariables false
set_option linter.unusedSimpArgs false
/-- The function that reads out of a text. -/
def rdr : Value := .func (.func 129) #[] #[]
/-- A parser that has its text. -/
noncomputable def pStart (T r q : Value) : List Value := (((pInit r q).toList.set 11 rdr).set 13 T).set 14 (.int .i64 0)
theorem pInit_at11 (r q : Value) : (pInit r q).toList[11]? = some .nilFunc := by kernel_rfl
theorem pInit_at13 (r q : Value) : (pInit r q).toList[13]? = some (.slice none 0 0) := by kernel_rfl
theorem pInit_at14 (r q : Value) : (pInit r q).toList[14]? = some (.int .i64 0) := by kernel_rfl
theorem neqNil (w : World) : (binOp .neq 105 .nilFunc .nilFunc).run Tryd.prog w = .ok (.bool false) w := by kernel_rfl
set_option maxHeartbeats 1000000 in
theorem text_any (p : Nat) (A : Option Addr) (n c : Nat) (r q : Value) (w : World) (h : Bk w p 120 (pInit r q).toList) :
    Calls Tryd.prog 99 #[.pointer (some ⟨p, 0, none⟩), .slice A n c] w fun e w' => e = .returned (.tuple #[]) ∧ Bk w' p 120 (pStart (.slice A n c) r q) ∧ Kp [p] w w' := by
  obtain ⟨c11, f11⟩ := h.cell 11
  obtain ⟨c13, f13⟩ := h.cell 13
  obtain ⟨c14, f14⟩ := h.cell 14
  rw [pInit_at11] at c11
  rw [pInit_at13] at c13
  rw [pInit_at14] at c14
  have H := Lib.hid h
  clear h
  have hnf := neqNil
  go_enter Tryd.func99, Tryd.ntmps99
  go_wp2_with fail
  go_end0
  refine ⟨rfl, ?_, ?_⟩
  · exact ((H.out.set 11 _).set 13 _).set 14 _
  · exact (((Kp.refl _ _).setCell p 11 _ (by simp)).setCell p 13 _ (by simp)).setCell p 14 _ (by simp)
set_option maxHeartbeats 400000 in
theorem start_any (p : Nat) (cur : List Value) (w : World) (h : Bk w p 120 cur) (hl : cur.length = 52) :
    Calls Tryd.prog 61 #[.pointer (some ⟨p, 0, none⟩)] w fun e w' => e = .returned (.tuple #[]) ∧ First p w w' ∧ Kp [p] w w' := by
  have hi := init_any p cur w h hl
  have HI := Lib.hid hi
  clear hi h
  go_enter Tryd.func61, Tryd.ntmps61
  go_wp2_with fail
  refine HI.out.mono ?_
  rintro e w1 ⟨rfl, h1, h2⟩
  have H1 := Lib.hid h1
  have H2 := Lib.hid h2
  clear h1 h2
  go_wp2_with fail
  go_end0
  exact ⟨rfl, H1.out, H2.out⟩
set_option maxHeartbeats 400000 in
theorem ptext_any (p : Nat) (A : Option Addr) (n c : Nat) (r q : Value) (w : World) (h : Bk w p 120 (pInit r q).toList) :
    Calls Tryd.prog 62 #[.pointer (some ⟨p, 0, none⟩), .slice A n c] w fun e w' => e = .returned (.tuple #[]) ∧ Bk w' p 120 (pStart (.slice A n c) r q) ∧ Kp [p] w w' := by
  have hi := text_any p A n c r q w h
  have HI := Lib.hid hi
  clear hi h
  go_enter Tryd.func62, Tryd.ntmps62
  go_wp2_with fail
  refine HI.out.mono ?_
  rintro e w1 ⟨rfl, h1, h2⟩
  have H1 := Lib.hid h1
  have H2 := Lib.hid h2
  clear h1 h2
  go_wp2_with fail
  go_end0
  exact ⟨rfl, H1.out, H2.out⟩
theorem wpList_run {P : Program} {ops : Array Oper} {Q : Exit → Act → World → Prop} {rest : List Oper} {o : Oper} {a : Act} {w w' : World} {v : Value} (hgd : o.guard = none)
    (hx : (execOp a.eval o).run P w = .ok (.value v) w') (h : wpList P ops Q rest (a.put o.dst v) w') : wpList P ops Q (o :: rest) a w := by
  unfold wpList
  have hw : Region.wanted o (yielded ops a.tmps) = true := by unfold Region.wanted; rw [hgd]
  rw [if_pos hw]
  left
  unfold Oper.wp
  rw [hx]
  exact h
theorem wpList_build0 {ops : Array Oper} {Q : Exit → Act → World → Prop} {rest : List Oper} {o : Oper} {a : Act} {w : World} (hgd : o.guard = none) (ho : o.op = .build 120 #[])
    (h : wpList Tryd.prog ops Q rest (a.put o.dst (.agg zeroP)) w) : wpList Tryd.prog ops Q (o :: rest) a w := by
  refine wpList_run hgd ?_ h
  have := bld0 w
  simp [execOp, ho, this]
theorem wpList_boxP {ops : Array Oper} {Q : Exit → Act → World → Prop} {rest : List Oper} {o : Oper} {a : Act} {w : World} (hgd : o.guard = none) (x : Operand) (ho : o.op = .box 120 x) (hx : a.eval x = .agg zeroP)
    (h : wpList Tryd.prog ops Q rest (a.put o.dst (.pointer (some ⟨w.heap.size, 0, none⟩))) (w.alloc (.cells zeroP 120))) : wpList Tryd.prog ops Q (o :: rest) a w := by
  refine wpList_run hgd ?_ h
  have := boxP w
  simp [execOp, ho, hx, this]
/-- A new parser of a text. -/
def Started (T : Value) (w : World) (e : Ending) (w' : World) : Prop := ∃ p r q, e = .returned (.pointer (some ⟨p, 0, none⟩)) ∧ w.heap.size ≤ p ∧ p < r ∧ p < q ∧ r ≠ q ∧ Bk w' r 5 (zeros 512) ∧ Bk w' q 5 (zeros 1536) ∧
  Bk w' p 120 (pStart T (.slice (some ⟨r, 0, none⟩) 0 512) (.slice (some ⟨q, 0, none⟩) 0 1536)) ∧ Below w.heap.size w w'
theorem zero_len : zeroP.toList.length = 52 := by kernel_rfl
set_option maxHeartbeats 2000000 in
set_option maxRecDepth 100000 in
theorem started_any (A : Option Addr) (n c : Nat) (w : World) : Calls Tryd.prog 31 #[.slice A n c] w (Started (.slice A n c) w) := by
  go_enter Tryd.func31, Tryd.ntmps31
  go_wp2_with (first | (refine wpList_build0 rfl rfl ?_) | (refine wpList_boxP rfl _ rfl rfl ?_))
  obtain ⟨w0, hw0⟩ : ∃ w0 : World, w0 = w.alloc (Obj.cells zeroP 120) := ⟨_, rfl⟩
  rw [← hw0]
  have hb0 : Bk w0 w.heap.size 120 zeroP.toList := by rw [hw0]; exact Bk.new w zeroP.toList _
  have hs0 : w0.heap.size = w.heap.size + 1 := by rw [hw0]; simp
  have hk0 : Below w.heap.size w w0 := by rw [hw0]; exact (Below.refl _ _).alloc (Nat.le_refl _) _
  have HK0 := Lib.hid hk0
  clear hw0 hk0
  refine (start_any w.heap.size zeroP.toList w0 hb0 zero_len).mono ?_
  rintro e w1 ⟨rfl, ⟨r, q, ⟨b1, rfl, k1, m1⟩, ⟨b2, rfl, k2, m2⟩, m⟩, hk1⟩
  have HM := Lib.hid m
  have HM1 := Lib.hid m1
  have HM2 := Lib.hid m2
  have HK1 := Lib.hid (HK0.out.trans (hk1.below (by omega) (by simp)))
  clear m m1 m2 hk1 hb0
  go_wp2_with fail
  refine (ptext_any w.heap.size A n c _ _ w1 HM.out).mono ?_
  rintro e w2 ⟨rfl, hm, hk2⟩
  have HM3 := Lib.hid hm
  have h1 : Bk w2 b1 5 (zeros 512) := HM1.out.kp hk2 (by simp; omega)
  have h2 : Bk w2 b2 5 (zeros 1536) := HM2.out.kp hk2 (by simp; omega)
  have H1 := Lib.hid h1
  have H2 := Lib.hid h2
  have HK2 := Lib.hid (HK1.out.trans (hk2.below (by have := HK1.out.size; omega) (by simp)))
  clear hm hk2 h1 h2
  go_wp2_with fail
  go_ret
  refine ⟨w.heap.size, b1, b2, rfl, Nat.le_refl _, by omega, by omega, ?_, H1.out, H2.out, HM3.out, HK2.out⟩
  intro e
  subst e
  have h1 := H1.out
  have h2 := H2.out
  unfold Bk at h1 h2
  rw [h1] at h2
  simp only [Option.some.injEq, Obj.cells.injEq] at h2
  have := congrArg Array.size h2.1
  simp [zeros] at this
end Go.Proofs.YtocbbekciphjgaaDoor.Pa
/- PaD -/
/- The reader of a text (yaml_string_read_handler): the walk. -/
namespace Go.Proofs.YtocbbekciphjgaaDoor.Pa
open Go.RowKit
set_option linter.unusedVariables false
set_option linter.unusedSimpArgs false
/-- The bytes of a text, as values. -/
def vs (l : List Int) : List Value := l.map (Value.int .u8)
theorem vs_len (l : List Int) : (vs l).length = l.length := by unfold vs; simp
theorem vs_at (l : List Int) (i : Nat) (h : i < l.length) : (vs l)[i]? = some (.int .u8 (l.getD i 0)) := by
  unfold vs
  rw [List.getElem?_map, List.getD_eq_getElem?_getD, List.getElem?_eq_getElem h]
  rfl
theorem vs_one (l : List Int) : ∀ v ∈ vs l, v.oneCell' = true := by
  intro v hv
  unfold vs at hv
  rw [List.mem_map] at hv
  obtain ⟨x, _, rfl⟩ := hv
  rfl
theorem wpList_copy_bk {ops : Array Oper} {rest : List Oper} {o : Oper} {a : Act} {w : World} {Q : Exit → Act → World → Prop} (hgd : o.guard = none) (d s : Operand)
    (ho : o.op = .call { callee := .builtin .copy, args := #[d, s], argTypes := #[22, 22] }) (g off dLen dCap : Nat) (ad : Addr) (sLen sCap : Nat) (hd : a.eval d = .slice (some ⟨g, off, none⟩) dLen dCap) (hs : a.eval s = .slice (some ad) sLen sCap)
    (L : List Value) (hg : Bk w g 5 L) (cs : List Value) (hn : cs.length = Nat.min sLen dLen) (hsrc : ∀ j v, cs[j]? = some v → w.cell? (ad.add j) = some v) (hfit : off + cs.length ≤ L.length) (h1 : ∀ v ∈ cs, v.oneCell' = true)
    (h : wpList Tryd.prog ops Q rest (a.put o.dst (.int .i64 cs.length)) (w.setRow g (splice L off cs).toArray)) : wpList Tryd.prog ops Q (o :: rest) a w := by
  refine wpList_copy_own hgd d s 22 22 ho 5 Tryd.underlying22 (by kernel_rfl) g off dLen dCap ad sLen sCap hd hs L.toArray 5 hg cs hn hsrc (by simpa using hfit) h1 ?_
  exact h
/-- The text's bytes lie here. -/
def In (w : World) (A : Option Addr) (T : List Int) : Prop := T.length = 0 ∨ ∃ b o, A = some ⟨b, o, none⟩ ∧ b < w.heap.size ∧ ∀ i, i < T.length → w.cell? ⟨b, o + i, none⟩ = some (.int .u8 (T.getD i 0))
set_option maxHeartbeats 1000000 in
set_option maxRecDepth 100000 in
theorem rd_eof (p r o m c : Nat) (A : Option Addr) (n ci : Nat) (L : List Value) (E : Value) (w : World) (hn : n ≤ 2147483647) (h : Bk w p 120 L) (h13 : L[13]? = some (.slice A n ci)) (h14 : L[14]? = some (.int .i64 (n : Nat))) (hE : w.cell? ⟨2, 0, none⟩ = some E) :
    Calls Tryd.prog 129 #[.pointer (some ⟨p, 0, none⟩), .slice (some ⟨r, o, none⟩) m c] w fun e w' => e = .returned (.tuple #[.int .i64 0, E]) ∧ ∃ k, w' = w.drewN k := by
  obtain ⟨c13, _⟩ := h.cell 13
  obtain ⟨c14, _⟩ := h.cell 14
  rw [h13] at c13
  rw [h14] at c14
  clear h h13 h14
  go_enter Tryd.func129, Tryd.ntmps129
  go_wp2_with fail
  go_quiet (fail)
  go_wp2_with fail
  go_quiet (fail)
  go_wp2_with fail
  go_ret2
  exact ⟨rfl, _, drewN_add _ _ _⟩
set_option maxHeartbeats 1000000 in
set_option maxRecDepth 100000 in
theorem rd_some (p r o m c : Nat) (A : Option Addr) (ci ip k : Nat) (T : List Int) (L RL : List Value) (w : World) (hn : T.length ≤ 2147483647) (h : Bk w p 120 L) (hl : L.length = 52) (h13 : L[13]? = some (.slice A T.length ci)) (h14 : L[14]? = some (.int .i64 (ip : Nat))) (hci : T.length ≤ ci)
    (hin : In w A T) (hip : ip < T.length) (hr : Bk w r 5 RL) (hm : o + m ≤ RL.length) (hmm : RL.length ≤ 1000000) (hk : k = min m (T.length - ip)) (hpr : p ≠ r) :
    Calls Tryd.prog 129 #[.pointer (some ⟨p, 0, none⟩), .slice (some ⟨r, o, none⟩) m c] w fun e w' => e = .returned (.tuple #[.int .i64 k, .nilIface]) ∧
      Bk w' p 120 (L.set 14 (.int .i64 (ip + k : Nat))) ∧ Bk w' r 5 (splice RL o (vs ((T.drop ip).take k))) ∧ Kp [p, r] w w' ∧ w'.heap.size = w.heap.size := by
  obtain ⟨c13, _⟩ := h.cell 13
  obtain ⟨c14, f14⟩ := h.cell 14
  rw [h13] at c13
  have h14' := h14
  rw [h14] at c14
  rcases hin with h0 | ⟨b, io, rfl, hb, hc⟩
  · omega
  have hne : ((ip : Int) == (T.length : Int)) = false := by simp; omega
  have hip2 : (ip : Int) ≤ (T.length : Int) := by omega
  have hcap : ¬ (ci = ip) := by omega
  have H := Lib.hid h
  have HR := Lib.hid hr
  have HC := Lib.hid hc
  have HK := Lib.hid hk
  clear h h13 h14 hr hc hk
  go_enter Tryd.func129, Tryd.ntmps129
  go_wp2_with fail
  go_quiet (fail)
  go_wp2_with fail
  have hw : Kp [p, r] w (w.drewN nq) ∧ (w.drewN nq).heap.size = w.heap.size := ⟨(Kp.refl _ _).drewN nq, rfl⟩
  have H1 : Hid (Bk (w.drewN nq) p 120 L) := H.out
  have HR1 : Hid (Bk (w.drewN nq) r 5 RL) := HR.out
  have HC1 : Hid (∀ i, i < T.length → (w.drewN nq).cell? ⟨b, io + i, none⟩ = some (.int .u8 (T.getD i 0))) := HC.out
  have d13 : (w.drewN nq).cell? ⟨p, 13, none⟩ = some (.slice (some ⟨b, io, none⟩) T.length ci) := c13
  have d14 : (w.drewN nq).cell? ⟨p, 14, none⟩ = some (.int .i64 ip) := c14
  have e14 : (w.drewN nq).frozen? ⟨p, 14, none⟩ = false := f14
  have HW := Lib.hid hw
  clear hw c13 c14 f14 H HR HC
  generalize w.drewN nq = w1 at *
  refine wp_region_still_tail 10 (by kernel_rfl) (by kernel_rfl) ?_
  simp only [List.take_succ_cons, List.take_zero, List.drop_succ_cons, List.drop_zero]
  repeat still_step
  refine wpStill_nil ?_
  change wpList _ _ _ _ _ w1.drew
  have hcs : (vs ((T.drop ip).take k)).length = k := by rw [vs_len]; have := HK.out; simp; omega
  refine wpList_copy_bk rfl (.tmp 17) (.tmp 26) rfl r o m c ⟨b, io + ip, none⟩ (T.length - ip) (ci - ip) rfl rfl RL HR1.out.drew (vs ((T.drop ip).take k)) (by rw [hcs, HK.out, Nat.min_comm]) ?_ (by have := HK.out; omega) (vs_one _) ?_
  · intro j v hj
    have hjk : j < k := by
      by_cases hh : j < k
      · exact hh
      · rw [List.getElem?_eq_none (by omega)] at hj; cases hj
    have e : (⟨b, io + ip, none⟩ : Addr).add j = ⟨b, io + (ip + j), none⟩ := by
      unfold Addr.add
      split
      · rename_i h; subst h; rfl
      · simp; omega
    rw [e]
    have h2 := HC1.out (ip + j) (by have := HK.out; omega)
    rw [vs_at _ _ (by rw [vs_len] at hcs; omega)] at hj
    rw [show ((T.drop ip).take k).getD j 0 = T.getD (ip + j) 0 by rw [List.getD_eq_getElem?_getD, List.getD_eq_getElem?_getD, List.getElem?_take_of_lt hjk, List.getElem?_drop]] at hj
    rw [← hj]
    exact h2
  have hkp : Kp [p, r] w (w1.drew.setRow r (splice RL o (vs ((T.drop ip).take k))).toArray) := HW.out.1.drew.setRow r _ (by simp)
  have hbr : Bk (w1.drew.setRow r (splice RL o (vs ((T.drop ip).take k))).toArray) r 5 (splice RL o (vs ((T.drop ip).take k))) := Bk.row HR1.out.drew _
  have hbp : Bk (w1.drew.setRow r (splice RL o (vs ((T.drop ip).take k))).toArray) p 120 L := (setRow_other w1.drew r p _ hpr).trans H1.out
  have hsz : (w1.drew.setRow r (splice RL o (vs ((T.drop ip).take k))).toArray).heap.size = w.heap.size := by simp [World.setRow]; exact HW.out.2
  have HKP := Lib.hid hkp
  have HBR := Lib.hid hbr
  have HBP := Lib.hid hbp
  have HSZ := Lib.hid hsz
  rw [hcs]
  obtain ⟨g14, k14⟩ := hbp.cell 14
  rw [h14'] at g14
  clear hkp hbr hbp hsz hcs d13 d14 e14 H1 HR1 HC1 HW
  generalize w1.drew.setRow r (splice RL o (vs ((T.drop ip).take k))).toArray = w2 at *
  have hkb : (ip : Int) + k ≤ 2147483647 := by have := HK.out; omega
  go_wp2_with fail
  go_ret2
  refine ⟨rfl, ?_, ?_, ?_, ?_⟩
  · have := HBP.out.set 14 (.int .i64 (ip + k : Nat))
    exact this
  · exact (HBR.out.other p 14 _ (Ne.symm hpr))
  · exact HKP.out.setCell p 14 _ (by simp)
  · simpa using HSZ.out
/-- What the reader leaves: k bytes more, from place o on. -/
structure Rd (p r o k ip : Nat) (T : List Int) (L RL : List Value) (w w' : World) : Prop where
  ex : ∃ L' RL', Bk w' p 120 L' ∧ L'.length = L.length ∧ L'[14]? = some (.int .i64 (ip + k : Nat)) ∧ (∀ j, j ≠ 14 → L'[j]? = L[j]?) ∧
    Bk w' r 5 RL' ∧ RL'.length = RL.length ∧ (∀ j, j < o → RL'[j]? = RL[j]?) ∧ (∀ j, j < k → RL'[o + j]? = some (.int .u8 (T.getD (ip + j) 0)))
  kp : Kp [p, r] w w'
  size : w'.heap.size = w.heap.size
theorem rd_any (p r o m c : Nat) (A : Option Addr) (ci ip k : Nat) (T : List Int) (L RL : List Value) (E : Value) (w : World) (hn : T.length ≤ 2147483647) (h : Bk w p 120 L) (hl : L.length = 52) (h13 : L[13]? = some (.slice A T.length ci)) (h14 : L[14]? = some (.int .i64 (ip : Nat))) (hci : T.length ≤ ci)
    (hin : In w A T) (hip : ip ≤ T.length) (hr : Bk w r 5 RL) (hm : o + m ≤ RL.length) (hmm : RL.length ≤ 1000000) (hk : k = min m (T.length - ip)) (hpr : p ≠ r) (hE : w.cell? ⟨2, 0, none⟩ = some E) :
    Calls Tryd.prog 129 #[.pointer (some ⟨p, 0, none⟩), .slice (some ⟨r, o, none⟩) m c] w fun e w' => e = .returned (.tuple #[.int .i64 k, if ip = T.length then E else .nilIface]) ∧ Rd p r o k ip T L RL w w' := by
  by_cases he : ip = T.length
  · subst he
    obtain rfl : k = 0 := by omega
    rw [if_pos rfl]
    refine (rd_eof p r o m c A T.length ci L E w hn h h13 h14 hE).mono ?_
    rintro e w' ⟨rfl, n, rfl⟩
    exact ⟨rfl, ⟨⟨L, RL, h, rfl, h14, fun _ _ => rfl, hr, rfl, fun _ _ => rfl, fun j hj => by omega⟩, (Kp.refl _ _).drewN n, rfl⟩⟩
  · rw [if_neg he]
    refine (rd_some p r o m c A ci ip k T L RL w hn h hl h13 h14 hci hin (by omega) hr hm hmm hk hpr).mono ?_
    rintro e w' ⟨rfl, h1, h2, h3, h4⟩
    have hlv : (vs ((T.drop ip).take k)).length = k := by rw [vs_len]; simp; omega
    refine ⟨rfl, ⟨⟨_, _, h1, by simp, by rw [List.getElem?_set_self (by omega)], fun j hj => List.getElem?_set_ne (Ne.symm hj), h2, length_splice _ _ _ (by omega), fun j hj => ?_, fun j hj => ?_⟩, h3, h4⟩⟩
    · rw [splice_at _ _ _ (by omega), if_pos hj]
    · rw [splice_at _ _ _ (by omega), if_neg (by omega), if_pos (by omega), Nat.add_sub_cancel_left, vs_at _ _ (by rw [vs_len] at hlv; omega), List.getD_eq_getElem?_getD, List.getElem?_take_of_lt hj, List.getElem?_drop, ← List.getD_eq_getElem?_getD]
end Go.Proofs.YtocbbekciphjgaaDoor.Pa
