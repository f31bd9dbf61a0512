/- A parser of a text, as the thin package starts it: definitions, and the walk of its making. -/
import Derived.Test.YtocbbekciphjgaaDoorRows
import Derived.Test.YtocbbekciphjgaaDoorSp
import Derived.WalkKit
import Derived.WalkSpells
import Derived.WalkLawsBesides
import Derived.Lib.Hide
import Derived.Deep.MidRow
import Derived.Below
import Derived.Laws.CopyOwn
import Derived.Laws.MakeOwn
import Derived.RowKit3
import Derived.Laws.AppendOwn
import Derived.Laws.EntriesVeiled
import Derived.Handy
import Derived.Deep.QuietTactic
import Derived.BigQuiet
namespace Go.Proofs.YtocbbekciphjgaaDoor.Pa
open Go.RowKit
set_option linter.unusedVariables false
set_option linter.unusedSimpArgs false
/-- But for these blocks, and new ones, nothing has turned. -/
structure Kp (ps : List Nat) (w w' : World) : Prop where
  os : w'.os = w.os
  tape : w'.tape = w.tape
  output : w'.output = w.output
  size : w.heap.size ≤ w'.heap.size
  block : ∀ k, k < w.heap.size → k ∉ ps → w'.heap[k]? = w.heap[k]?
theorem Kp.refl (ps : List Nat) (w : World) : Kp ps w w := ⟨rfl, rfl, rfl, Nat.le_refl _, fun _ _ _ => rfl⟩
theorem Kp.trans {ps : List Nat} {a b c : World} (h : Kp ps a b) (k : Kp ps b c) : Kp ps a c :=
  ⟨k.os.trans h.os, k.tape.trans h.tape, k.output.trans h.output, Nat.le_trans h.size k.size, fun i hi hp => (k.block i (by have := h.size; omega) hp).trans (h.block i hi hp)⟩
theorem Kp.mono {ps qs : List Nat} {a b : World} (h : Kp ps a b) (hs : ∀ k, k ∈ ps → k ∈ qs) : Kp qs a b := ⟨h.os, h.tape, h.output, h.size, fun k hk hq => h.block k hk fun hp => hq (hs k hp)⟩
theorem Kp.below {ps : List Nat} {B : Nat} {a b : World} (h : Kp ps a b) (hB : B ≤ a.heap.size) (hp : ∀ k ∈ ps, B ≤ k) : Below B a b :=
  ⟨h.os, h.tape, h.output, h.size, fun k hk => h.block k (by omega) fun hh => by have := hp k hh; omega⟩
theorem Kp.of_below {ps : List Nat} {a b : World} (h : Below a.heap.size a b) : Kp ps a b := ⟨h.os, h.tape, h.output, h.size, fun k hk _ => h.block k hk⟩
theorem Kp.drew {ps : List Nat} {a b : World} (h : Kp ps a b) : Kp ps a b.drew := ⟨h.os, h.tape, h.output, h.size, h.block⟩
theorem Kp.drewN {ps : List Nat} {a b : World} (h : Kp ps a b) (n : Nat) : Kp ps a (b.drewN n) := ⟨h.os, h.tape, h.output, h.size, h.block⟩
theorem Kp.alloc {ps : List Nat} {a b : World} (h : Kp ps a b) (o : Obj) : Kp ps a (b.alloc o) := h.trans (.of_below ((Below.refl _ _).alloc (Nat.le_refl _) _))
theorem Kp.setCell {ps : List Nat} {a b : World} (h : Kp ps a b) (p o : Nat) (v : Value) (hp : p ∈ ps) : Kp ps a (b.setCell ⟨p, o, none⟩ v) :=
  h.trans ⟨rfl, rfl, rfl, by simp [World.setCell], fun k hk hq => Below.heap_setCell _ _ _ _ fun e => hq (by rw [e]; exact hp)⟩
theorem Kp.cell {ps : List Nat} {a b : World} (h : Kp ps a b) {x : Addr} (hx : x.block < a.heap.size) (hp : x.block ∉ ps) : b.cell? x = a.cell? x := World.cell?_of_block (w := a) (h.block x.block hx hp)
theorem Kp.setRow {ps : List Nat} {a b : World} (h : Kp ps a b) (g : Nat) (cs : Array Value) (hg : g ∈ ps) : Kp ps a (b.setRow g cs) :=
  h.trans ⟨rfl, rfl, rfl, by simp [World.setRow], fun k hk hq => setRow_other b g k cs fun e => hq (by rw [e]; exact hg)⟩
theorem drewN_add (w : World) (a b : Nat) : (w.drewN a).drewN b = w.drewN (a + b) := by
  unfold World.drewN
  simp [Nat.add_assoc]
/-- A block that is known whole. -/
def Bk (w : World) (b : Nat) (t : TypeId) (L : List Value) : Prop := w.heap[b]? = some (.cells L.toArray t (0, 0))
theorem Bk.set {w : World} {b : Nat} {t : TypeId} {L : List Value} (h : Bk w b t L) (i : Nat) (v : Value) : Bk (w.setCell ⟨b, i, none⟩ v) b t (L.set i v) := by
  unfold Bk at *
  unfold World.setCell
  simp [Array.getElem?_modify, h]
theorem Bk.other {w : World} {b : Nat} {t : TypeId} {L : List Value} (h : Bk w b t L) (p i : Nat) (v : Value) (hp : b ≠ p) : Bk (w.setCell ⟨p, i, none⟩ v) b t L := (Below.heap_setCell w ⟨p, i, none⟩ v b hp).trans h
theorem Bk.cell {w : World} {b : Nat} {t : TypeId} {L : List Value} (h : Bk w b t L) (i : Nat) : w.cell? ⟨b, i, none⟩ = L[i]? ∧ w.frozen? ⟨b, i, none⟩ = false := by
  unfold Bk at h
  unfold World.cell? World.frozen?
  rw [h]
  simp
theorem Bk.lt {w : World} {b : Nat} {t : TypeId} {L : List Value} (h : Bk w b t L) : b < w.heap.size := (Array.getElem?_eq_some_iff.1 h).1
theorem Bk.kp {w w' : World} {b : Nat} {t : TypeId} {L : List Value} {ps : List Nat} (h : Bk w b t L) (hk : Kp ps w w') (hb : b ∉ ps) : Bk w' b t L := (hk.block b h.lt hb).trans h
theorem Bk.drewN {w : World} {b : Nat} {t : TypeId} {L : List Value} (h : Bk w b t L) (n : Nat) : Bk (w.drewN n) b t L := h
theorem Bk.drew {w : World} {b : Nat} {t : TypeId} {L : List Value} (h : Bk w b t L) : Bk w.drew b t L := h
theorem Bk.alloc {w : World} {b : Nat} {t : TypeId} {L : List Value} (h : Bk w b t L) (o : Obj) : Bk (w.alloc o) b t L := h.kp ((Kp.refl [] w).alloc o) (by simp)
theorem Bk.new (w : World) (L : List Value) (t : TypeId) : Bk (w.alloc (.cells L.toArray t)) w.heap.size t L := by
  show (w.heap.push _)[w.heap.size]? = _
  simp
theorem Bk.row {w : World} {b : Nat} {t : TypeId} {L : List Value} (h : Bk w b t L) (M : List Value) : Bk (w.setRow b M.toArray) b t M := setRow_heap w b L.toArray M.toArray t (0, 0) h
theorem splice_at {α : Type} (L : List α) (off : Nat) (cs : List α) (h : off + cs.length ≤ L.length) (i : Nat) :
    (splice L off cs)[i]? = if i < off then L[i]? else if i < off + cs.length then cs[i - off]? else L[i]? := by
  unfold splice
  by_cases h1 : i < off
  · rw [if_pos h1, List.getElem?_append_left (by simp; omega), List.getElem?_take_of_lt h1]
  · rw [if_neg h1, List.getElem?_append_right (by simp; omega)]
    have e : (L.take off).length = off := by simp; omega
    rw [e]
    by_cases h2 : i < off + cs.length
    · rw [if_pos h2, List.getElem?_append_left (by omega)]
    · rw [if_neg h2, List.getElem?_append_right (by omega), List.getElem?_drop]
      congr 1
      omega
theorem Bk.setCells {b : Nat} {t : TypeId} : ∀ (cs : List Value) (o : Nat) (L : List Value) (w : World), Bk w b t L → o + cs.length ≤ L.length → Bk (w.setCells b o cs) b t (splice L o cs) := by
  intro cs
  induction cs with
  | nil => intro o L w h _; rw [World.setCells]; unfold splice; simpa using h
  | cons v r ih =>
    intro o L w h hl
    rw [World.setCells]
    simp at hl
    have := ih (o + 1) _ _ (h.set o v) (by simp; omega)
    have e : splice (L.set o v) (o + 1) r = splice L o (v :: r) := by
      apply List.ext_getElem?
      intro i
      rw [splice_at _ _ _ (by simp; omega), splice_at _ _ _ (by simp; omega)]
      simp only [List.length_cons]
      by_cases h1 : i < o
      · rw [if_pos (show i < o + 1 by omega), if_pos h1, List.getElem?_set_ne (by omega)]
      · by_cases h2 : i = o
        · subst h2
          rw [if_pos (show i < i + 1 by omega), if_neg h1, if_pos (by omega), List.getElem?_set_self (by omega), Nat.sub_self]
          rfl
        · rw [if_neg (show ¬ i < o + 1 by omega), if_neg h1]
          obtain ⟨k, hk⟩ : ∃ k, i = o + 1 + k := ⟨i - (o + 1), by omega⟩
          subst hk
          rw [show o + 1 + k - (o + 1) = k by omega, show o + 1 + k - o = k + 1 by omega, List.getElem?_cons_succ, List.getElem?_set_ne (by omega)]
          by_cases h3 : k < r.length
          · rw [if_pos (by omega), if_pos (by omega)]
          · rw [if_neg (by omega), if_neg (by omega)]
    rw [e] at this
    exact this
theorem Kp.setCells {ps : List Nat} {a : World} (p : Nat) (hp : p ∈ ps) : ∀ (cs : List Value) (o : Nat) (b : World), Kp ps a b → Kp ps a (b.setCells p o cs) := by
  intro cs
  induction cs with
  | nil => intro o b h; rw [World.setCells]; exact h
  | cons v r ih => intro o b h; rw [World.setCells]; exact ih _ _ (h.setCell p o v hp)
/-! ### A parser -/
/-- The zero of a parser. -/
noncomputable def zeroP : Array Value := match (Instr.build 120 #[]).run Tryd.prog (default : World) with
  | .ok (.agg c) _ => c
  | _ => #[]
theorem bld0 (w : World) : (Instr.build 120 #[]).run Tryd.prog w = .ok (.agg zeroP) w := by kernel_rfl
theorem boxP (w : World) : (Instr.box 120 (.agg zeroP)).run Tryd.prog w = .ok (.pointer (some ⟨w.heap.size, 0, none⟩)) (w.alloc (.cells zeroP 120)) := by kernel_rfl
/-- A parser with its two buffers. -/
noncomputable def pInit (r q : Value) : Array Value := (zeroP.setIfInBounds 20 r).setIfInBounds 16 q
theorem bld (a b : Option Addr) (n1 n2 c1 c2 : Nat) (w : World) : (Instr.build 120 #[(16, .slice a n1 c1), (12, .slice b n2 c2)]).run Tryd.prog w = .ok (.agg (pInit (.slice a n1 c1) (.slice b n2 c2))) w := by kernel_rfl
theorem pInit_size (a b : Value) : (pInit a b).size = 52 := by unfold pInit; simp only [Array.size_setIfInBounds]; kernel_rfl
theorem pInit_one (a b : Option Addr) (n1 n2 c1 c2 : Nat) : (pInit (.slice a n1 c1) (.slice b n2 c2)).all (·.oneCell') = true := by kernel_rfl
theorem infoP : (Tryd.prog.info? 120).map (·.size) = some 52 := by kernel_rfl
/-- So many noughts. -/
def zeros (n : Nat) : List Value := List.replicate n (.int .u8 0)
theorem info5 : (Tryd.prog.info? 5).map (fun i => (i.zero, i.size, i.bytes)) = some (some (.int .u8 0), 1, 1) := by kernel_rfl
theorem mk_any (n : Nat) (hn : n ≤ 1000000) (w : World) : (Instr.makeSlice 22 (.int .i64 0) (.int .i64 n)).run Tryd.prog w = .ok (.slice (some ⟨w.heap.size, 0, none⟩) 0 n) (w.alloc (.cells (zeros n).toArray 5)) := by
  obtain ⟨i0, hi, hz0, hz1, hz2⟩ := info_parts info5
  have h := run_make (P := Tryd.prog) w 22 5 i0 (.int .u8 0) Tryd.underlying22 hi hz0 .i64 .i64 0 (n : Int) (by omega) (by omega) (by rw [hz2]; omega) (by omega)
  rw [h, hz1, Nat.mul_one]
  have e : madeCells (Value.int .u8 0).cells n = (zeros n).toArray := by
    unfold madeCells zeros
    apply Array.ext
    · simp
    · intro i h1 h2
      simp [Value.cells, Nat.mod_one]
  simp [e]
end Go.Proofs.YtocbbekciphjgaaDoor.Pa
