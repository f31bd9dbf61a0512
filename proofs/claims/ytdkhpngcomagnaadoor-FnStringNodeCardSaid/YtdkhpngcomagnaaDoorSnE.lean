/- A node of the thin package (impl.node): the walk. Printed by genSnE.py. -/
import Derived.Test.YtdkhpngcomagnaaDoorSnD
import Derived.Test.YtdkhpngcomagnaaDoorSp
import Derived.Deep.MidRow
import Derived.Laws.CopyOwn
namespace Go.Proofs.YtdkhpngcomagnaaDoor.Sn
open Go.RowKit
set_option linter.unusedVariables false
set_option linter.unusedSimpArgs false
def out (st : Int) (tag s : ByteArray) : List Value := [.int .i64 8, .int .i64 st, .string tag, .string s, .string ⟨#[]⟩, .string ⟨#[]⟩, .string ⟨#[]⟩, .string ⟨#[]⟩, .int .i64 0, .int .i64 0, .int .i64 (-1), .slice none 0 0]
def out0 : List Value := [.int .i64 0, .int .i64 0, .string ⟨#[]⟩, .string ⟨#[]⟩, .string ⟨#[]⟩, .string ⟨#[]⟩, .string ⟨#[]⟩, .string ⟨#[]⟩, .int .i64 0, .int .i64 0, .int .i64 0, .slice none 0 0]
theorem splice_at {α : Type} (L : List α) (off : Nat) (cs : List α) (h : off + cs.length ≤ L.length) (i : Nat) :
    (splice L off cs)[i]? = if i < off then L[i]? else if i < off + cs.length then cs[i - off]? else L[i]? := by
  unfold splice
  by_cases h1 : i < off
  · rw [if_pos h1, List.getElem?_append_left (by simp; omega), List.getElem?_take_of_lt h1]
  · rw [if_neg h1, List.getElem?_append_right (by simp; omega)]
    have e : (L.take off).length = off := by simp; omega
    rw [e]
    by_cases h2 : i < off + cs.length
    · rw [if_pos h2, List.getElem?_append_left (by omega)]
    · rw [if_neg h2, List.getElem?_append_right (by omega), List.getElem?_drop]
      congr 1
      omega
theorem Bk.setCells {b : Nat} {t : TypeId} : ∀ (cs : List Value) (o : Nat) (L : List Value) (w : World), Bk w b t L → o + cs.length ≤ L.length → Bk (w.setCells b o cs) b t (splice L o cs) := by
  intro cs
  induction cs with
  | nil => intro o L w h _; rw [World.setCells]; unfold splice; simpa using h
  | cons v r ih =>
    intro o L w h hl
    rw [World.setCells]
    simp at hl
    have := ih (o + 1) _ _ (h.set o v) (by simp; omega)
    have e : splice (L.set o v) (o + 1) r = splice L o (v :: r) := by
      apply List.ext_getElem?
      intro i
      rw [splice_at _ _ _ (by simp; omega), splice_at _ _ _ (by simp; omega)]
      simp only [List.length_cons]
      by_cases h1 : i < o
      · rw [if_pos (show i < o + 1 by omega), if_pos h1, List.getElem?_set_ne (by omega)]
      · by_cases h2 : i = o
        · subst h2
          rw [if_pos (show i < i + 1 by omega), if_neg h1, if_pos (by omega), List.getElem?_set_self (by omega), Nat.sub_self]
          rfl
        · rw [if_neg (show ¬ i < o + 1 by omega), if_neg h1]
          obtain ⟨k, hk⟩ : ∃ k, i = o + 1 + k := ⟨i - (o + 1), by omega⟩
          subst hk
          rw [show o + 1 + k - (o + 1) = k by omega, show o + 1 + k - o = k + 1 by omega, List.getElem?_cons_succ, List.getElem?_set_ne (by omega)]
          by_cases h3 : k < r.length
          · rw [if_pos (by omega), if_pos (by omega)]
          · rw [if_neg (by omega), if_neg (by omega)]
    rw [e] at this
    exact this
theorem Kp.setCells {ps : List Nat} {a : World} (p : Nat) (hp : p ∈ ps) : ∀ (cs : List Value) (o : Nat) (b : World), Kp ps a b → Kp ps a (b.setCells p o cs) := by
  intro cs
  induction cs with
  | nil => intro o b h; rw [World.setCells]; exact h
  | cons v r ih => intro o b h; rw [World.setCells]; exact ih _ _ (h.setCell p o v hp)
/-- A block is written anew. -/
theorem store_all {w : World} {b : Nat} {ty : TypeId} {cur : List Value} (new : List Value) (h : Bk w b ty cur) (hl : cur.length = new.length) (hi : (Tryd.prog.info? ty).map (·.size) = some new.length) (h1 : new.toArray.all (·.oneCell') = true) :
    (Instr.storeAt ty (.pointer (some ⟨b, 0, none⟩)) (.agg new.toArray)).run Tryd.prog w = .ok () (w.setCells b 0 new) ∧ Bk (w.setCells b 0 new) b ty new := by
  have ht : w.there b 0 new.length := fun j hj => by
    rw [Nat.zero_add, (h.cell j).1, (h.cell j).2, List.getElem?_eq_getElem (by omega)]
    exact ⟨rfl, rfl⟩
  refine ⟨?_, ?_⟩
  · exact run_storeAt_mid (P := Tryd.prog) w b 0 ty new.toArray (by rw [List.size_toArray]; exact ht) (by rw [List.size_toArray]; exact hi) h1
  · have := Bk.setCells new 0 cur w h (by omega)
    have e : splice cur 0 new = new := by
      unfold splice
      rw [List.drop_eq_nil_of_le (by omega)]
      simp
    rw [e] at this
    exact this
/-- In the midst of it. -/
structure I7 (b n0 : Nat) (st : Int) (tag s : ByteArray) (w0 : World) (L : Nat → Bool) (w : World) : Prop where
  nb : Bk w b 35 (nod 8 st tag s)
  lt : b < n0
  bel : Below n0 w0 w
  hn : n0 = w0.heap.size
  off : L 43 = false → w.heap.size = n0
theorem I7.keep {b n0 : Nat} {st : Int} {tag s : ByteArray} {w0 w : World} {L : Nat → Bool} (h : I7 b n0 st tag s w0 L w) (i : Nat) (hi : i ≠ 43) : I7 b n0 st tag s w0 (fun k => k == i || L k) w :=
  ⟨h.nb, h.lt, h.bel, h.hn, fun e => h.off (by
    have : ((43 : Nat) == i) = false := by rw [beq_eq_false_iff_ne]; exact fun e => hi e.symm
    simpa [this] using e)⟩
theorem I7.made {b n0 : Nat} {st : Int} {tag s : ByteArray} {w0 w : World} {L : Nat → Bool} (h : I7 b n0 st tag s w0 L w) (hL : L 43 = false) : I7 b n0 st tag s w0 (fun k => k == 43 || L k) (w.alloc (.cells out0.toArray 25)) :=
  ⟨h.nb.alloc _, h.lt, h.bel.alloc (by rw [h.off hL]; exact Nat.le_refl _) _, h.hn, fun e => by simp at e⟩
theorem I7.new {b n0 : Nat} {st : Int} {tag s : ByteArray} {w0 w : World} {L : Nat → Bool} (h : I7 b n0 st tag s w0 L w) (hL : L 43 = false) : Bk (w.alloc (.cells out0.toArray 25)) n0 25 out0 := by
  have := Bk.new w out0 25
  rw [h.off hL] at this
  exact this
theorem I7.c0 {b n0 : Nat} {st : Int} {tag s : ByteArray} {w0 w : World} {L : Nat → Bool} (h : I7 b n0 st tag s w0 L w) : w.cell? ⟨b, 0, none⟩ = some (.int .u32 8) := (at_ h.nb 0 rfl).1
theorem I7.c1 {b n0 : Nat} {st : Int} {tag s : ByteArray} {w0 w : World} {L : Nat → Bool} (h : I7 b n0 st tag s w0 L w) : w.cell? ⟨b, 1, none⟩ = some (.int .u32 st) := (at_ h.nb 1 rfl).1
theorem I7.c2 {b n0 : Nat} {st : Int} {tag s : ByteArray} {w0 w : World} {L : Nat → Bool} (h : I7 b n0 st tag s w0 L w) : w.cell? ⟨b, 2, none⟩ = some (.string tag) := (at_ h.nb 2 rfl).1
theorem I7.c3 {b n0 : Nat} {st : Int} {tag s : ByteArray} {w0 w : World} {L : Nat → Bool} (h : I7 b n0 st tag s w0 L w) : w.cell? ⟨b, 3, none⟩ = some (.string s) := (at_ h.nb 3 rfl).1
theorem I7.c4 {b n0 : Nat} {st : Int} {tag s : ByteArray} {w0 w : World} {L : Nat → Bool} (h : I7 b n0 st tag s w0 L w) : w.cell? ⟨b, 4, none⟩ = some (.string ⟨#[]⟩) := (at_ h.nb 4 rfl).1
theorem I7.c7 {b n0 : Nat} {st : Int} {tag s : ByteArray} {w0 w : World} {L : Nat → Bool} (h : I7 b n0 st tag s w0 L w) : w.cell? ⟨b, 7, none⟩ = some (.string ⟨#[]⟩) := (at_ h.nb 7 rfl).1
theorem I7.c8 {b n0 : Nat} {st : Int} {tag s : ByteArray} {w0 w : World} {L : Nat → Bool} (h : I7 b n0 st tag s w0 L w) : w.cell? ⟨b, 8, none⟩ = some (.string ⟨#[]⟩) := (at_ h.nb 8 rfl).1
theorem I7.c9 {b n0 : Nat} {st : Int} {tag s : ByteArray} {w0 w : World} {L : Nat → Bool} (h : I7 b n0 st tag s w0 L w) : w.cell? ⟨b, 9, none⟩ = some (.string ⟨#[]⟩) := (at_ h.nb 9 rfl).1
theorem I7.c10 {b n0 : Nat} {st : Int} {tag s : ByteArray} {w0 w : World} {L : Nat → Bool} (h : I7 b n0 st tag s w0 L w) : w.cell? ⟨b, 10, none⟩ = some (.int .i64 0) := (at_ h.nb 10 rfl).1
theorem I7.c11 {b n0 : Nat} {st : Int} {tag s : ByteArray} {w0 w : World} {L : Nat → Bool} (h : I7 b n0 st tag s w0 L w) : w.cell? ⟨b, 11, none⟩ = some (.int .i64 0) := (at_ h.nb 11 rfl).1
def RN (n0 : Nat) (fin : List Value) (w w' : World) : Prop := (∀ cur, Bk w n0 25 cur → cur.length = 12 → ∃ cur', Bk w' n0 25 cur' ∧ cur'.length = 12) ∧ (Bk w n0 25 fin → Bk w' n0 25 fin)
theorem RN_refl (n0 : Nat) (fin : List Value) (w : World) : RN n0 fin w w := ⟨fun c h1 h2 => ⟨c, h1, h2⟩, fun h => h⟩
theorem RN_new {b n0 : Nat} {st : Int} {tag s : ByteArray} {w0 w : World} {L : Nat → Bool} {fin : List Value} (h : I7 b n0 st tag s w0 L w) (hL : L 43 = false) : RN n0 fin w (w.alloc (.cells out0.toArray 25)) :=
  ⟨fun c h1 h2 => ⟨c, h1.alloc _, h2⟩, fun h1 => h1.alloc _⟩
theorem store_node {b n0 : Nat} {st : Int} {tag s : ByteArray} {w0 w : World} {L : Nat → Bool} {cur : List Value} (hcur : Bk w n0 25 cur) (hl : cur.length = 12) (h : I7 b n0 st tag s w0 L w) (fin : List Value) (hf : fin = out st tag s) :
    (Instr.storeAt 25 (.pointer (some ⟨n0, 0, none⟩)) (.agg (out st tag s).toArray)).run Tryd.prog w = .ok () (w.setCells n0 0 (out st tag s)) ∧ I7 b n0 st tag s w0 L (w.setCells n0 0 (out st tag s)) ∧ RN n0 (out st tag s) w (w.setCells n0 0 (out st tag s)) ∧ Bk (w.setCells n0 0 (out st tag s)) n0 25 (out st tag s) := by
  subst hf
  have hs := store_all (out st tag s) hcur (by rw [hl]; rfl) (by kernel_rfl) (by kernel_rfl)
  have hk : Kp [n0] w (w.setCells n0 0 (out st tag s)) := Kp.setCells _ (by simp) _ _ _ (Kp.refl _ _)
  have hlt := h.lt
  refine ⟨hs.1, ⟨h.nb.kp hk (by simp; omega), h.lt, h.bel.trans (hk.below (by rw [h.hn]; exact h.bel.size) (by simp)), h.hn, fun e => (by have := h.off e; have := hcur.lt; omega)⟩, ⟨fun c _ _ => ⟨_, hs.2, rfl⟩, fun _ => hs.2⟩, hs.2⟩
def Sn7 (b n0 : Nat) (st : Int) (tag s : ByteArray) : Nat → Value → World → Prop
  | 0, v, _ => v = .pointer (some ⟨b, 0, none⟩)
  | 1, v, _ => v = .pointer (some ⟨b, 0, none⟩)
  | 2, v, _ => v = .pointer (some ⟨b, 0, none⟩)
  | 3, v, _ => v = .int .u32 8
  | 4, v, _ => v = .int .i64 8
  | 5, v, _ => v = .pointer (some ⟨b, 0, none⟩)
  | 6, v, _ => v = .pointer (some ⟨b, 0, none⟩)
  | 7, v, _ => v = .pointer (some ⟨b, 1, none⟩)
  | 8, v, _ => v = .int .u32 st
  | 9, v, _ => v = .int .i64 st
  | 10, v, _ => v = .pointer (some ⟨b, 0, none⟩)
  | 11, v, _ => v = .pointer (some ⟨b, 0, none⟩)
  | 12, v, _ => v = .pointer (some ⟨b, 2, none⟩)
  | 13, v, _ => v = .string tag
  | 14, v, _ => v = .pointer (some ⟨b, 0, none⟩)
  | 15, v, _ => v = .pointer (some ⟨b, 0, none⟩)
  | 16, v, _ => v = .pointer (some ⟨b, 3, none⟩)
  | 17, v, _ => v = .string s
  | 18, v, _ => v = .pointer (some ⟨b, 0, none⟩)
  | 19, v, _ => v = .pointer (some ⟨b, 0, none⟩)
  | 20, v, _ => v = .pointer (some ⟨b, 4, none⟩)
  | 21, v, _ => v = .string ⟨#[]⟩
  | 22, v, _ => v = .pointer (some ⟨b, 0, none⟩)
  | 23, v, _ => v = .pointer (some ⟨b, 0, none⟩)
  | 24, v, _ => v = .pointer (some ⟨b, 7, none⟩)
  | 25, v, _ => v = .string ⟨#[]⟩
  | 26, v, _ => v = .pointer (some ⟨b, 0, none⟩)
  | 27, v, _ => v = .pointer (some ⟨b, 0, none⟩)
  | 28, v, _ => v = .pointer (some ⟨b, 8, none⟩)
  | 29, v, _ => v = .string ⟨#[]⟩
  | 30, v, _ => v = .pointer (some ⟨b, 0, none⟩)
  | 31, v, _ => v = .pointer (some ⟨b, 0, none⟩)
  | 32, v, _ => v = .pointer (some ⟨b, 9, none⟩)
  | 33, v, _ => v = .string ⟨#[]⟩
  | 34, v, _ => v = .pointer (some ⟨b, 0, none⟩)
  | 35, v, _ => v = .pointer (some ⟨b, 0, none⟩)
  | 36, v, _ => v = .pointer (some ⟨b, 10, none⟩)
  | 37, v, _ => v = .int .i64 0
  | 38, v, _ => v = .pointer (some ⟨b, 0, none⟩)
  | 39, v, _ => v = .pointer (some ⟨b, 0, none⟩)
  | 40, v, _ => v = .pointer (some ⟨b, 11, none⟩)
  | 41, v, _ => v = .int .i64 0
  | 42, v, _ => v = .agg (out st tag s).toArray
  | 43, v, w => v = .pointer (some ⟨n0, 0, none⟩) ∧ ∃ cur, Bk w n0 25 cur ∧ cur.length = 12
  | 44, _, w => Bk w n0 25 (out st tag s)
  | _, _, _ => True
theorem Sn7_mono (b n0 : Nat) (st : Int) (tag s : ByteArray) (i : Nat) (v : Value) (w w' : World) (hR : RN n0 (out st tag s) w w') (h : Sn7 b n0 st tag s i v w) : Sn7 b n0 st tag s i v w' := by
  unfold Sn7 at h ⊢
  split at h <;> first | exact h | exact hR.2 h | exact ⟨h.1, by obtain ⟨c, h1, h2⟩ := h.2; exact hR.1 c h1 h2⟩
set_option maxHeartbeats 4000000 in
set_option maxRecDepth 100000 in
theorem node_any (b : Nat) (st : Int) (tag s : ByteArray) (w : World) (hb : Bk w b 35 (nod 8 st tag s)) (hst : IntKind.i64.wrap st = st) :
    Calls Tryd.prog 7 #[.pointer (some ⟨b, 0, none⟩), .slice none 0 0] w fun e w' => e = .returned (.agg (out st tag s).toArray) ∧ Below w.heap.size w w' := by
  have hlt := hb.lt
  obtain ⟨wa, HWA⟩ : ∃ wa : World, Hid (w.alloc (.cells out0.toArray 25) = wa) := ⟨_, rfl⟩
  obtain ⟨n0, HN⟩ : ∃ n0 : Nat, Hid (wa.heap.size = n0) := ⟨_, rfl⟩
  have hsa : wa.heap.size = w.heap.size + 1 := by rw [← HWA.out]; simp
  have hba : Below w.heap.size w wa := by rw [← HWA.out]; exact (Below.refl _ _).alloc (Nat.le_refl _) _
  have hnw : Bk wa w.heap.size 25 out0 := by rw [← HWA.out]; exact Bk.new _ _ _
  have hbw : Bk wa b 35 (nod 8 st tag s) := by rw [← HWA.out]; exact hb.alloc _
  have hn0 : n0 = w.heap.size + 1 := by rw [← HN.out]; exact hsa
  have hI0 : I7 b n0 st tag s wa (fun _ => false) wa.drew := ⟨hbw.drew, by omega, ⟨rfl, rfl, rfl, Nat.le_refl _, fun _ _ => rfl⟩, HN.out.symm, fun _ => HN.out⟩
  have HI := Lib.hid hI0
  have HBA := Lib.hid hba
  have HNW := Lib.hid hnw
  clear hb hbw hI0 hba hnw
  go_enter Tryd.func7, Tryd.ntmps7
  go_upto_region 1 with fail
  rw [show w.alloc (.cells #[.int .i64 0, .int .i64 0, .string ⟨#[]⟩, .string ⟨#[]⟩, .string ⟨#[]⟩, .string ⟨#[]⟩, .string ⟨#[]⟩, .string ⟨#[]⟩, .int .i64 0, .int .i64 0, .int .i64 0, .slice none 0 0] 25) = wa from HWA.out]
  refine Sp.region_specs_l (by kernel_rfl) _ (by kernel_rfl) (by kernel_rfl) (by kernel_rfl) rfl (by kernel_rfl) (Sn7 b n0 st tag s) (I7 b n0 st tag s wa) (RN n0 (out st tag s)) HI.out (fun i v w w' hR => Sn7_mono b n0 st tag s i v w w' hR) ?_ ?_
  · clear HWA HN HI HBA HNW hsa hn0
    intro i hi L a w1 hL F hI
    have hcases : i = 0 ∨ i = 1 ∨ i = 2 ∨ i = 3 ∨ i = 4 ∨ i = 5 ∨ i = 6 ∨ i = 7 ∨ i = 8 ∨ i = 9 ∨ i = 10 ∨ i = 11 ∨ i = 12 ∨ i = 13 ∨ i = 14 ∨ i = 15 ∨ i = 16 ∨ i = 17 ∨ i = 18 ∨ i = 19 ∨ i = 20 ∨ i = 21 ∨ i = 22 ∨ i = 23 ∨ i = 24 ∨ i = 25 ∨ i = 26 ∨ i = 27 ∨ i = 28 ∨ i = 29 ∨ i = 30 ∨ i = 31 ∨ i = 32 ∨ i = 33 ∨ i = 34 ∨ i = 35 ∨ i = 36 ∨ i = 37 ∨ i = 38 ∨ i = 39 ∨ i = 40 ∨ i = 41 ∨ i = 42 ∨ i = 43 ∨ i = 44 := by have hi' : i < 45 := hi; omega
    rcases hcases with rfl | rfl | rfl | rfl | rfl | rfl | rfl | rfl | rfl | rfl | rfl | rfl | rfl | rfl | rfl | rfl | rfl | rfl | rfl | rfl | rfl | rfl | rfl | rfl | rfl | rfl | rfl | rfl | rfl | rfl | rfl | rfl | rfl | rfl | rfl | rfl | rfl | rfl | rfl | rfl | rfl | rfl | rfl | rfl | rfl
    · have d0 : a.tmps.getD 0 undef = .pointer (some ⟨b, 0, none⟩) := F.out 0 (by kernel_rfl)
      exact Sp.sp_value rfl (Sp.wanted_none rfl) (v := .pointer (some ⟨b, 0, none⟩)) (w' := w1) (by simp [execOp, Act.eval, d0, Sp.gd d0, go_sem]) (hI.keep 0 (by decide)) (RN_refl _ _ _) rfl
    · have d9 : a.tmps.getD 9 undef = .pointer (some ⟨b, 0, none⟩) := F.val 0 9 (by kernel_rfl) (by rfl)
      exact Sp.sp_value rfl (Sp.wanted_none rfl) (v := .pointer (some ⟨b, 0, none⟩)) (w' := w1) (by simp [execOp, Act.eval, d9, Sp.gd d9, go_sem]) (hI.keep 1 (by decide)) (RN_refl _ _ _) rfl
    · have d10 : a.tmps.getD 10 undef = .pointer (some ⟨b, 0, none⟩) := F.val 1 10 (by kernel_rfl) (by rfl)
      exact Sp.sp_value rfl (Sp.wanted_none rfl) (v := .pointer (some ⟨b, 0, none⟩)) (w' := w1) (by simp [execOp, Act.eval, d10, Sp.gd d10, go_sem]) (hI.keep 2 (by decide)) (RN_refl _ _ _) rfl
    · have d11 : a.tmps.getD 11 undef = .pointer (some ⟨b, 0, none⟩) := F.val 2 11 (by kernel_rfl) (by rfl)
      exact Sp.sp_value rfl (Sp.wanted_none rfl) (v := .int .u32 8) (w' := w1) (by simp [execOp, Act.eval, d11, Sp.gd d11, hI.c0, go_sem]) (hI.keep 3 (by decide)) (RN_refl _ _ _) rfl
    · have d12 : a.tmps.getD 12 undef = .int .u32 8 := F.val 3 12 (by kernel_rfl) (by rfl)
      exact Sp.sp_value rfl (Sp.wanted_none rfl) (v := .int .i64 8) (w' := w1) (by simp [execOp, Act.eval, d12, Sp.gd d12, show IntKind.i64.wrap 8 = 8 by decide, go_sem]) (hI.keep 4 (by decide)) (RN_refl _ _ _) rfl
    · have d0 : a.tmps.getD 0 undef = .pointer (some ⟨b, 0, none⟩) := F.out 0 (by kernel_rfl)
      exact Sp.sp_value rfl (Sp.wanted_none rfl) (v := .pointer (some ⟨b, 0, none⟩)) (w' := w1) (by simp [execOp, Act.eval, d0, Sp.gd d0, go_sem]) (hI.keep 5 (by decide)) (RN_refl _ _ _) rfl
    · have d14 : a.tmps.getD 14 undef = .pointer (some ⟨b, 0, none⟩) := F.val 5 14 (by kernel_rfl) (by rfl)
      exact Sp.sp_value rfl (Sp.wanted_none rfl) (v := .pointer (some ⟨b, 0, none⟩)) (w' := w1) (by simp [execOp, Act.eval, d14, Sp.gd d14, go_sem]) (hI.keep 6 (by decide)) (RN_refl _ _ _) rfl
    · have d15 : a.tmps.getD 15 undef = .pointer (some ⟨b, 0, none⟩) := F.val 6 15 (by kernel_rfl) (by rfl)
      exact Sp.sp_value rfl (Sp.wanted_none rfl) (v := .pointer (some ⟨b, 1, none⟩)) (w' := w1) (by simp [execOp, Act.eval, d15, Sp.gd d15, go_sem]) (hI.keep 7 (by decide)) (RN_refl _ _ _) rfl
    · have d16 : a.tmps.getD 16 undef = .pointer (some ⟨b, 1, none⟩) := F.val 7 16 (by kernel_rfl) (by rfl)
      exact Sp.sp_value rfl (Sp.wanted_none rfl) (v := .int .u32 st) (w' := w1) (by simp [execOp, Act.eval, d16, Sp.gd d16, hI.c1, go_sem]) (hI.keep 8 (by decide)) (RN_refl _ _ _) rfl
    · have d17 : a.tmps.getD 17 undef = .int .u32 st := F.val 8 17 (by kernel_rfl) (by rfl)
      exact Sp.sp_value rfl (Sp.wanted_none rfl) (v := .int .i64 st) (w' := w1) (by simp [execOp, Act.eval, d17, Sp.gd d17, hst, go_sem]) (hI.keep 9 (by decide)) (RN_refl _ _ _) rfl
    · have d0 : a.tmps.getD 0 undef = .pointer (some ⟨b, 0, none⟩) := F.out 0 (by kernel_rfl)
      exact Sp.sp_value rfl (Sp.wanted_none rfl) (v := .pointer (some ⟨b, 0, none⟩)) (w' := w1) (by simp [execOp, Act.eval, d0, Sp.gd d0, go_sem]) (hI.keep 10 (by decide)) (RN_refl _ _ _) rfl
    · have d19 : a.tmps.getD 19 undef = .pointer (some ⟨b, 0, none⟩) := F.val 10 19 (by kernel_rfl) (by rfl)
      exact Sp.sp_value rfl (Sp.wanted_none rfl) (v := .pointer (some ⟨b, 0, none⟩)) (w' := w1) (by simp [execOp, Act.eval, d19, Sp.gd d19, go_sem]) (hI.keep 11 (by decide)) (RN_refl _ _ _) rfl
    · have d20 : a.tmps.getD 20 undef = .pointer (some ⟨b, 0, none⟩) := F.val 11 20 (by kernel_rfl) (by rfl)
      exact Sp.sp_value rfl (Sp.wanted_none rfl) (v := .pointer (some ⟨b, 2, none⟩)) (w' := w1) (by simp [execOp, Act.eval, d20, Sp.gd d20, go_sem]) (hI.keep 12 (by decide)) (RN_refl _ _ _) rfl
    · have d21 : a.tmps.getD 21 undef = .pointer (some ⟨b, 2, none⟩) := F.val 12 21 (by kernel_rfl) (by rfl)
      exact Sp.sp_value rfl (Sp.wanted_none rfl) (v := .string tag) (w' := w1) (by simp [execOp, Act.eval, d21, Sp.gd d21, hI.c2, go_sem]) (hI.keep 13 (by decide)) (RN_refl _ _ _) rfl
    · have d0 : a.tmps.getD 0 undef = .pointer (some ⟨b, 0, none⟩) := F.out 0 (by kernel_rfl)
      exact Sp.sp_value rfl (Sp.wanted_none rfl) (v := .pointer (some ⟨b, 0, none⟩)) (w' := w1) (by simp [execOp, Act.eval, d0, Sp.gd d0, go_sem]) (hI.keep 14 (by decide)) (RN_refl _ _ _) rfl
    · have d23 : a.tmps.getD 23 undef = .pointer (some ⟨b, 0, none⟩) := F.val 14 23 (by kernel_rfl) (by rfl)
      exact Sp.sp_value rfl (Sp.wanted_none rfl) (v := .pointer (some ⟨b, 0, none⟩)) (w' := w1) (by simp [execOp, Act.eval, d23, Sp.gd d23, go_sem]) (hI.keep 15 (by decide)) (RN_refl _ _ _) rfl
    · have d24 : a.tmps.getD 24 undef = .pointer (some ⟨b, 0, none⟩) := F.val 15 24 (by kernel_rfl) (by rfl)
      exact Sp.sp_value rfl (Sp.wanted_none rfl) (v := .pointer (some ⟨b, 3, none⟩)) (w' := w1) (by simp [execOp, Act.eval, d24, Sp.gd d24, go_sem]) (hI.keep 16 (by decide)) (RN_refl _ _ _) rfl
    · have d25 : a.tmps.getD 25 undef = .pointer (some ⟨b, 3, none⟩) := F.val 16 25 (by kernel_rfl) (by rfl)
      exact Sp.sp_value rfl (Sp.wanted_none rfl) (v := .string s) (w' := w1) (by simp [execOp, Act.eval, d25, Sp.gd d25, hI.c3, go_sem]) (hI.keep 17 (by decide)) (RN_refl _ _ _) rfl
    · have d0 : a.tmps.getD 0 undef = .pointer (some ⟨b, 0, none⟩) := F.out 0 (by kernel_rfl)
      exact Sp.sp_value rfl (Sp.wanted_none rfl) (v := .pointer (some ⟨b, 0, none⟩)) (w' := w1) (by simp [execOp, Act.eval, d0, Sp.gd d0, go_sem]) (hI.keep 18 (by decide)) (RN_refl _ _ _) rfl
    · have d27 : a.tmps.getD 27 undef = .pointer (some ⟨b, 0, none⟩) := F.val 18 27 (by kernel_rfl) (by rfl)
      exact Sp.sp_value rfl (Sp.wanted_none rfl) (v := .pointer (some ⟨b, 0, none⟩)) (w' := w1) (by simp [execOp, Act.eval, d27, Sp.gd d27, go_sem]) (hI.keep 19 (by decide)) (RN_refl _ _ _) rfl
    · have d28 : a.tmps.getD 28 undef = .pointer (some ⟨b, 0, none⟩) := F.val 19 28 (by kernel_rfl) (by rfl)
      exact Sp.sp_value rfl (Sp.wanted_none rfl) (v := .pointer (some ⟨b, 4, none⟩)) (w' := w1) (by simp [execOp, Act.eval, d28, Sp.gd d28, go_sem]) (hI.keep 20 (by decide)) (RN_refl _ _ _) rfl
    · have d29 : a.tmps.getD 29 undef = .pointer (some ⟨b, 4, none⟩) := F.val 20 29 (by kernel_rfl) (by rfl)
      exact Sp.sp_value rfl (Sp.wanted_none rfl) (v := .string ⟨#[]⟩) (w' := w1) (by simp [execOp, Act.eval, d29, Sp.gd d29, hI.c4, go_sem]) (hI.keep 21 (by decide)) (RN_refl _ _ _) rfl
    · have d0 : a.tmps.getD 0 undef = .pointer (some ⟨b, 0, none⟩) := F.out 0 (by kernel_rfl)
      exact Sp.sp_value rfl (Sp.wanted_none rfl) (v := .pointer (some ⟨b, 0, none⟩)) (w' := w1) (by simp [execOp, Act.eval, d0, Sp.gd d0, go_sem]) (hI.keep 22 (by decide)) (RN_refl _ _ _) rfl
    · have d31 : a.tmps.getD 31 undef = .pointer (some ⟨b, 0, none⟩) := F.val 22 31 (by kernel_rfl) (by rfl)
      exact Sp.sp_value rfl (Sp.wanted_none rfl) (v := .pointer (some ⟨b, 0, none⟩)) (w' := w1) (by simp [execOp, Act.eval, d31, Sp.gd d31, go_sem]) (hI.keep 23 (by decide)) (RN_refl _ _ _) rfl
    · have d32 : a.tmps.getD 32 undef = .pointer (some ⟨b, 0, none⟩) := F.val 23 32 (by kernel_rfl) (by rfl)
      exact Sp.sp_value rfl (Sp.wanted_none rfl) (v := .pointer (some ⟨b, 7, none⟩)) (w' := w1) (by simp [execOp, Act.eval, d32, Sp.gd d32, go_sem]) (hI.keep 24 (by decide)) (RN_refl _ _ _) rfl
    · have d33 : a.tmps.getD 33 undef = .pointer (some ⟨b, 7, none⟩) := F.val 24 33 (by kernel_rfl) (by rfl)
      exact Sp.sp_value rfl (Sp.wanted_none rfl) (v := .string ⟨#[]⟩) (w' := w1) (by simp [execOp, Act.eval, d33, Sp.gd d33, hI.c7, go_sem]) (hI.keep 25 (by decide)) (RN_refl _ _ _) rfl
    · have d0 : a.tmps.getD 0 undef = .pointer (some ⟨b, 0, none⟩) := F.out 0 (by kernel_rfl)
      exact Sp.sp_value rfl (Sp.wanted_none rfl) (v := .pointer (some ⟨b, 0, none⟩)) (w' := w1) (by simp [execOp, Act.eval, d0, Sp.gd d0, go_sem]) (hI.keep 26 (by decide)) (RN_refl _ _ _) rfl
    · have d35 : a.tmps.getD 35 undef = .pointer (some ⟨b, 0, none⟩) := F.val 26 35 (by kernel_rfl) (by rfl)
      exact Sp.sp_value rfl (Sp.wanted_none rfl) (v := .pointer (some ⟨b, 0, none⟩)) (w' := w1) (by simp [execOp, Act.eval, d35, Sp.gd d35, go_sem]) (hI.keep 27 (by decide)) (RN_refl _ _ _) rfl
    · have d36 : a.tmps.getD 36 undef = .pointer (some ⟨b, 0, none⟩) := F.val 27 36 (by kernel_rfl) (by rfl)
      exact Sp.sp_value rfl (Sp.wanted_none rfl) (v := .pointer (some ⟨b, 8, none⟩)) (w' := w1) (by simp [execOp, Act.eval, d36, Sp.gd d36, go_sem]) (hI.keep 28 (by decide)) (RN_refl _ _ _) rfl
    · have d37 : a.tmps.getD 37 undef = .pointer (some ⟨b, 8, none⟩) := F.val 28 37 (by kernel_rfl) (by rfl)
      exact Sp.sp_value rfl (Sp.wanted_none rfl) (v := .string ⟨#[]⟩) (w' := w1) (by simp [execOp, Act.eval, d37, Sp.gd d37, hI.c8, go_sem]) (hI.keep 29 (by decide)) (RN_refl _ _ _) rfl
    · have d0 : a.tmps.getD 0 undef = .pointer (some ⟨b, 0, none⟩) := F.out 0 (by kernel_rfl)
      exact Sp.sp_value rfl (Sp.wanted_none rfl) (v := .pointer (some ⟨b, 0, none⟩)) (w' := w1) (by simp [execOp, Act.eval, d0, Sp.gd d0, go_sem]) (hI.keep 30 (by decide)) (RN_refl _ _ _) rfl
    · have d39 : a.tmps.getD 39 undef = .pointer (some ⟨b, 0, none⟩) := F.val 30 39 (by kernel_rfl) (by rfl)
      exact Sp.sp_value rfl (Sp.wanted_none rfl) (v := .pointer (some ⟨b, 0, none⟩)) (w' := w1) (by simp [execOp, Act.eval, d39, Sp.gd d39, go_sem]) (hI.keep 31 (by decide)) (RN_refl _ _ _) rfl
    · have d40 : a.tmps.getD 40 undef = .pointer (some ⟨b, 0, none⟩) := F.val 31 40 (by kernel_rfl) (by rfl)
      exact Sp.sp_value rfl (Sp.wanted_none rfl) (v := .pointer (some ⟨b, 9, none⟩)) (w' := w1) (by simp [execOp, Act.eval, d40, Sp.gd d40, go_sem]) (hI.keep 32 (by decide)) (RN_refl _ _ _) rfl
    · have d41 : a.tmps.getD 41 undef = .pointer (some ⟨b, 9, none⟩) := F.val 32 41 (by kernel_rfl) (by rfl)
      exact Sp.sp_value rfl (Sp.wanted_none rfl) (v := .string ⟨#[]⟩) (w' := w1) (by simp [execOp, Act.eval, d41, Sp.gd d41, hI.c9, go_sem]) (hI.keep 33 (by decide)) (RN_refl _ _ _) rfl
    · have d0 : a.tmps.getD 0 undef = .pointer (some ⟨b, 0, none⟩) := F.out 0 (by kernel_rfl)
      exact Sp.sp_value rfl (Sp.wanted_none rfl) (v := .pointer (some ⟨b, 0, none⟩)) (w' := w1) (by simp [execOp, Act.eval, d0, Sp.gd d0, go_sem]) (hI.keep 34 (by decide)) (RN_refl _ _ _) rfl
    · have d43 : a.tmps.getD 43 undef = .pointer (some ⟨b, 0, none⟩) := F.val 34 43 (by kernel_rfl) (by rfl)
      exact Sp.sp_value rfl (Sp.wanted_none rfl) (v := .pointer (some ⟨b, 0, none⟩)) (w' := w1) (by simp [execOp, Act.eval, d43, Sp.gd d43, go_sem]) (hI.keep 35 (by decide)) (RN_refl _ _ _) rfl
    · have d44 : a.tmps.getD 44 undef = .pointer (some ⟨b, 0, none⟩) := F.val 35 44 (by kernel_rfl) (by rfl)
      exact Sp.sp_value rfl (Sp.wanted_none rfl) (v := .pointer (some ⟨b, 10, none⟩)) (w' := w1) (by simp [execOp, Act.eval, d44, Sp.gd d44, go_sem]) (hI.keep 36 (by decide)) (RN_refl _ _ _) rfl
    · have d45 : a.tmps.getD 45 undef = .pointer (some ⟨b, 10, none⟩) := F.val 36 45 (by kernel_rfl) (by rfl)
      exact Sp.sp_value rfl (Sp.wanted_none rfl) (v := .int .i64 0) (w' := w1) (by simp [execOp, Act.eval, d45, Sp.gd d45, hI.c10, go_sem]) (hI.keep 37 (by decide)) (RN_refl _ _ _) rfl
    · have d0 : a.tmps.getD 0 undef = .pointer (some ⟨b, 0, none⟩) := F.out 0 (by kernel_rfl)
      exact Sp.sp_value rfl (Sp.wanted_none rfl) (v := .pointer (some ⟨b, 0, none⟩)) (w' := w1) (by simp [execOp, Act.eval, d0, Sp.gd d0, go_sem]) (hI.keep 38 (by decide)) (RN_refl _ _ _) rfl
    · have d47 : a.tmps.getD 47 undef = .pointer (some ⟨b, 0, none⟩) := F.val 38 47 (by kernel_rfl) (by rfl)
      exact Sp.sp_value rfl (Sp.wanted_none rfl) (v := .pointer (some ⟨b, 0, none⟩)) (w' := w1) (by simp [execOp, Act.eval, d47, Sp.gd d47, go_sem]) (hI.keep 39 (by decide)) (RN_refl _ _ _) rfl
    · have d48 : a.tmps.getD 48 undef = .pointer (some ⟨b, 0, none⟩) := F.val 39 48 (by kernel_rfl) (by rfl)
      exact Sp.sp_value rfl (Sp.wanted_none rfl) (v := .pointer (some ⟨b, 11, none⟩)) (w' := w1) (by simp [execOp, Act.eval, d48, Sp.gd d48, go_sem]) (hI.keep 40 (by decide)) (RN_refl _ _ _) rfl
    · have d49 : a.tmps.getD 49 undef = .pointer (some ⟨b, 11, none⟩) := F.val 40 49 (by kernel_rfl) (by rfl)
      exact Sp.sp_value rfl (Sp.wanted_none rfl) (v := .int .i64 0) (w' := w1) (by simp [execOp, Act.eval, d49, Sp.gd d49, hI.c11, go_sem]) (hI.keep 41 (by decide)) (RN_refl _ _ _) rfl
    · have d13 : a.tmps.getD 13 undef = .int .i64 8 := F.val 4 13 (by kernel_rfl) (by rfl)
      have d18 : a.tmps.getD 18 undef = .int .i64 st := F.val 9 18 (by kernel_rfl) (by rfl)
      have d22 : a.tmps.getD 22 undef = .string tag := F.val 13 22 (by kernel_rfl) (by rfl)
      have d26 : a.tmps.getD 26 undef = .string s := F.val 17 26 (by kernel_rfl) (by rfl)
      have d30 : a.tmps.getD 30 undef = .string ⟨#[]⟩ := F.val 21 30 (by kernel_rfl) (by rfl)
      have d34 : a.tmps.getD 34 undef = .string ⟨#[]⟩ := F.val 25 34 (by kernel_rfl) (by rfl)
      have d38 : a.tmps.getD 38 undef = .string ⟨#[]⟩ := F.val 29 38 (by kernel_rfl) (by rfl)
      have d42 : a.tmps.getD 42 undef = .string ⟨#[]⟩ := F.val 33 42 (by kernel_rfl) (by rfl)
      have d46 : a.tmps.getD 46 undef = .int .i64 0 := F.val 37 46 (by kernel_rfl) (by rfl)
      have d50 : a.tmps.getD 50 undef = .int .i64 0 := F.val 41 50 (by kernel_rfl) (by rfl)
      exact Sp.sp_value rfl (Sp.wanted_none rfl) (v := .agg (out st tag s).toArray) (w' := w1) (by simp [execOp, Act.eval, d13, Sp.gd d13, d18, Sp.gd d18, d22, Sp.gd d22, d26, Sp.gd d26, d30, Sp.gd d30, d34, Sp.gd d34, d38, Sp.gd d38, d42, Sp.gd d42, d46, Sp.gd d46, d50, Sp.gd d50, out, go_sem]) (hI.keep 42 (by decide)) (RN_refl _ _ _) rfl
    · exact Sp.sp_value rfl (Sp.wanted_none rfl) (v := .pointer (some ⟨n0, 0, none⟩)) (w' := w1.alloc (.cells out0.toArray 25)) (by have h := hI.off hL; simp [execOp, Act.eval, go_sem, h, out0]) (hI.made hL) (RN_new hI hL) ⟨rfl, _, hI.new hL, rfl⟩
    · have d5 := F.val 43 5 (by kernel_rfl) (by rfl)
      have d51 : a.tmps.getD 51 undef = .agg (out st tag s).toArray := F.val 42 51 (by kernel_rfl) (by rfl)
      obtain ⟨d5v, cur, hcur, hcl⟩ := d5
      have d5 := d5v
      have hst := store_node hcur hcl (by exact hI) (out st tag s) rfl
      have g1 := Sp.gd d5
      have g2 := Sp.gd d51
      have hst1 := hst.1
      exact Sp.sp_store rfl (Sp.wanted_none rfl) (by simp [execOp, Act.eval, g1, g2, hst1]) (hst.2.1.keep 44 (by decide)) hst.2.2.1 hst.2.2.2
  · intro val Ld w1 hLd hI hS
    have v43 : val 43 = .pointer (some ⟨n0, 0, none⟩) := (hS 43 (by decide)).1
    have h44 : Bk w1 n0 25 (out st tag s) := hS 44 (by decide)
    simp only [Sp.setAll, List.setIfInBounds_toArray, List.set_cons_zero, List.set_cons_succ, v43]
    clear hS hLd
    obtain ⟨c5, f5⟩ := at_ hI.nb 5 rfl
    obtain ⟨c6, f6⟩ := at_ hI.nb 6 rfl
    have hn4 : Bk w1 w.heap.size 25 out0 := by
      unfold Bk
      rw [hI.bel.block w.heap.size (by omega)]
      exact HNW.out
    obtain ⟨p0, g0⟩ := at_ h44 0 rfl
    obtain ⟨q0, k0⟩ := at_ hn4 0 rfl
    obtain ⟨p1, g1⟩ := at_ h44 1 rfl
    obtain ⟨q1, k1⟩ := at_ hn4 1 rfl
    obtain ⟨p2, g2⟩ := at_ h44 2 rfl
    obtain ⟨q2, k2⟩ := at_ hn4 2 rfl
    obtain ⟨p3, g3⟩ := at_ h44 3 rfl
    obtain ⟨q3, k3⟩ := at_ hn4 3 rfl
    obtain ⟨p4, g4⟩ := at_ h44 4 rfl
    obtain ⟨q4, k4⟩ := at_ hn4 4 rfl
    obtain ⟨p5, g5⟩ := at_ h44 5 rfl
    obtain ⟨q5, k5⟩ := at_ hn4 5 rfl
    obtain ⟨p6, g6⟩ := at_ h44 6 rfl
    obtain ⟨q6, k6⟩ := at_ hn4 6 rfl
    obtain ⟨p7, g7⟩ := at_ h44 7 rfl
    obtain ⟨q7, k7⟩ := at_ hn4 7 rfl
    obtain ⟨p8, g8⟩ := at_ h44 8 rfl
    obtain ⟨q8, k8⟩ := at_ hn4 8 rfl
    obtain ⟨p9, g9⟩ := at_ h44 9 rfl
    obtain ⟨q9, k9⟩ := at_ hn4 9 rfl
    obtain ⟨p10, g10⟩ := at_ h44 10 rfl
    obtain ⟨q10, k10⟩ := at_ hn4 10 rfl
    obtain ⟨p11, g11⟩ := at_ h44 11 rfl
    obtain ⟨q11, k11⟩ := at_ hn4 11 rfl
    have HBL := Lib.hid (HBA.out.trans (hI.bel.mono (by omega)))
    have H44 := Lib.hid h44
    have HN4 := Lib.hid hn4
    have n1 : ¬ w.heap.size = n0 := by omega
    have n2 : ¬ n0 = w.heap.size := by omega
    clear hI h44 hn4 HWA HN HI HBA HNW v43 hsa hn0
    go_wp2_with fail
    refine wp_loop_rounds 1 ?_
    rw [rounds_succ]
    go_wp2_with fail
    clear p0 g0 q0 k0 p1 g1 q1 k1 p2 g2 q2 k2 p3 g3 q3 k3 p4 g4 q4 k4 p5 g5 q5 k5 p6 g6 q6 k6 p7 g7 q7 k7 p8 g8 q8 k8 p9 g9 q9 k9 p10 g10 q10 k10 p11 g11 q11 k11
    have h9 := ((((((((((((HN4.out.set 0 (.int .i64 8)).set 1 (.int .i64 st)).set 2 (.string tag)).set 3 (.string s)).set 4 (.string ⟨#[]⟩)).set 5 (.string ⟨#[]⟩)).set 6 (.string ⟨#[]⟩)).set 7 (.string ⟨#[]⟩)).set 8 (.int .i64 0)).set 9 (.int .i64 0)).set 10 (.int .i64 (-1))).set 11 (.slice none 0 0))
    have hbf := ((((((((((((HBL.out.setCell (p := ⟨w.heap.size, 0, none⟩) (by simp) (.int .i64 8)).setCell (p := ⟨w.heap.size, 1, none⟩) (by simp) (.int .i64 st)).setCell (p := ⟨w.heap.size, 2, none⟩) (by simp) (.string tag)).setCell (p := ⟨w.heap.size, 3, none⟩) (by simp) (.string s)).setCell (p := ⟨w.heap.size, 4, none⟩) (by simp) (.string ⟨#[]⟩)).setCell (p := ⟨w.heap.size, 5, none⟩) (by simp) (.string ⟨#[]⟩)).setCell (p := ⟨w.heap.size, 6, none⟩) (by simp) (.string ⟨#[]⟩)).setCell (p := ⟨w.heap.size, 7, none⟩) (by simp) (.string ⟨#[]⟩)).setCell (p := ⟨w.heap.size, 8, none⟩) (by simp) (.int .i64 0)).setCell (p := ⟨w.heap.size, 9, none⟩) (by simp) (.int .i64 0)).setCell (p := ⟨w.heap.size, 10, none⟩) (by simp) (.int .i64 (-1))).setCell (p := ⟨w.heap.size, 11, none⟩) (by simp) (.slice none 0 0))
    have r0 := (at_ h9 0 rfl).1
    have r1 := (at_ h9 1 rfl).1
    have r2 := (at_ h9 2 rfl).1
    have r3 := (at_ h9 3 rfl).1
    have r4 := (at_ h9 4 rfl).1
    have r5 := (at_ h9 5 rfl).1
    have r6 := (at_ h9 6 rfl).1
    have r7 := (at_ h9 7 rfl).1
    have r8 := (at_ h9 8 rfl).1
    have r9 := (at_ h9 9 rfl).1
    have r10 := (at_ h9 10 rfl).1
    have r11 := (at_ h9 11 rfl).1
    (try simp only [Exit.inBlock, Exit.then])
    refine bodyPost_ret (by simp [results, Tryd.results7, r0, r1, r2, r3, r4, r5, r6, r7, r8, r9, r10, r11, go_sem]; try rfl) rfl ?_
    exact ⟨rfl, hbf⟩
end Go.Proofs.YtdkhpngcomagnaaDoor.Sn
