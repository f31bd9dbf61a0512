/- The directives of an emitter, as they lie: plain laws of the world. -/
import Derived.Test.YtccmflnkhabilaaTgB
import Derived.Deep.AppendLies
import Derived.OwnWalk
namespace Go.Proofs.Ytccmflnkhabilaa.Tg
open Go.RowKit
set_option linter.unusedVariables false
/-- A text of bytes in a block of its own. -/
def Own (w : World) (B : Nat) (V : Value) (A : Option Addr) (xs : List Int) : Prop :=
  xs = [] ∨ ∃ b, A = some ⟨b, 0, none⟩ ∧ B ≤ b ∧ V.ownBlock ≠ some b ∧ w.heap[b]? = some (.cells (nums xs).toArray 5 (0, 0))
theorem nums_at (xs : List Int) (i : Nat) (h : i < xs.length) : (nums xs)[i]? = some (.int .u8 (xs.getD i 0)) := by
  unfold nums
  rw [List.getElem?_map, List.getD_eq_getElem?_getD, List.getElem?_eq_getElem h]
  rfl
theorem Own.lies {w : World} {B : Nat} {V : Value} {A : Option Addr} {xs : List Int} (h : Own w B V A xs) : Lies w A xs.length xs := by
  refine ⟨rfl, fun h0 => ?_⟩
  rcases h with rfl | ⟨b, e, _, _, hb⟩
  · simp at h0
  refine ⟨b, 0, e, lt_of_get hb, fun i hi => ?_⟩
  rw [Nat.zero_add]
  unfold World.cell?
  rw [hb]
  have := nums_at xs i hi
  simpa using this
/-- An emitter's directives: p the emitter, V their slice, X its cells; all that is theirs lies from block B on. -/
structure Dirs (B p : Nat) (hs ps : List (List Int)) (V : Value) (X : List Value) (w : World) : Prop where
  cell : w.cell? ⟨p, 20, none⟩ = some V
  free : w.frozen? ⟨p, 20, none⟩ = false
  own : w.ownsRow B 74 2 V hs.length X
  len : ps.length = hs.length
  lt : p < B
  le : B ≤ w.heap.size
  «at» : ∀ i, i < hs.length → ∃ A c A' c', X[2 * i]? = some (.slice A (hs.getD i []).length c) ∧ X[2 * i + 1]? = some (.slice A' (ps.getD i []).length c') ∧ Own w B V A (hs.getD i []) ∧ Own w B V A' (ps.getD i [])
theorem Dirs.drewN {B p : Nat} {hs ps : List (List Int)} {V : Value} {X : List Value} {w : World} (h : Dirs B p hs ps V X w) (n : Nat) : Dirs B p hs ps V X (w.drewN n) := ⟨h.cell, h.free, h.own, h.len, h.lt, h.le, h.at⟩
theorem Dirs.start {B p : Nat} {w : World} (hc : w.cell? ⟨p, 20, none⟩ = some (.slice none 0 0)) (hf : w.frozen? ⟨p, 20, none⟩ = false) (h1 : p < B) (h2 : B ≤ w.heap.size) : Dirs B p [] [] (.slice none 0 0) [] w :=
  ⟨hc, hf, World.ownsRow_nil _ _ _ _, rfl, h1, h2, fun i hi => by simp at hi⟩
/-- The slice's own form, and its cells. -/
theorem Dirs.form {B p : Nat} {hs ps : List (List Int)} {V : Value} {X : List Value} {w : World} (h : Dirs B p hs ps V X w) :
    (hs = [] ∧ ∃ A cap, V = .slice A 0 cap) ∨ ∃ g cap, 0 < hs.length ∧ V = .slice (some ⟨g, 0, none⟩) hs.length cap ∧ B ≤ g ∧ g < w.heap.size ∧ hs.length ≤ cap ∧ ∀ i, i < hs.length * 2 → w.cell? ⟨g, i, none⟩ = X[i]? := by
  obtain ⟨hl, h1 | ⟨g, cap, cur, hv, hB, hg, hn, hm, hs', ht⟩⟩ := h.own
  · exact .inl ⟨List.eq_nil_of_length_eq_zero h1.2, _, _, h1.1⟩
  · by_cases h0 : hs.length = 0
    · exact .inl ⟨List.eq_nil_of_length_eq_zero h0, some ⟨g, 0, none⟩, cap, by rw [hv, h0]⟩
    · refine .inr ⟨g, cap, by omega, hv, hB, lt_of_get hg, hn, fun i hi => ?_⟩
      unfold World.cell?
      rw [hg, ← ht, List.getElem?_take_of_lt hi]
      simp
/-- What has been made: two rows of bytes and their cell. -/
structure Mid (w0 : World) (m b1 b2 n1 n2 : Nat) (l1 l2 : List Value) (w : World) : Prop where
  bel : Below w0.heap.size w0 w
  mid : w.heap[m]? = some (.cells #[.slice (some ⟨b1, 0, none⟩) n1 n1, .slice (some ⟨b2, 0, none⟩) n2 n2] 74 (0, 0))
  one : w.heap[b1]? = some (.cells l1.toArray 5 (0, 0))
  two : w.heap[b2]? = some (.cells l2.toArray 5 (0, 0))
  hm : w0.heap.size ≤ m
  h1 : w0.heap.size ≤ b1
  h2 : w0.heap.size ≤ b2
  ne : b1 ≠ b2
theorem Mid.nm1 {w0 w : World} {m b1 b2 n1 n2 : Nat} {l1 l2 : List Value} (h : Mid w0 m b1 b2 n1 n2 l1 l2 w) : m ≠ b1 := by
  rintro rfl
  have := h.mid.symm.trans h.one
  simp at this
theorem Mid.nm2 {w0 w : World} {m b1 b2 n1 n2 : Nat} {l1 l2 : List Value} (h : Mid w0 m b1 b2 n1 n2 l1 l2 w) : m ≠ b2 := by
  rintro rfl
  have := h.mid.symm.trans h.two
  simp at this
theorem Mid.drew {w0 w : World} {m b1 b2 n1 n2 : Nat} {l1 l2 : List Value} (h : Mid w0 m b1 b2 n1 n2 l1 l2 w) : Mid w0 m b1 b2 n1 n2 l1 l2 w.drew := ⟨h.bel.drew, h.mid, h.one, h.two, h.hm, h.h1, h.h2, h.ne⟩
theorem Save.below {B b : Nat} {w0 w w' : World} (h : Below B w0 w) (hs : Save b w w') (hb : B ≤ b) : Below B w0 w' :=
  ⟨hs.os.trans h.os, hs.tape.trans h.tape, hs.output.trans h.output, by rw [hs.size]; exact h.size, fun k hk => (hs.block k (by omega)).trans (h.block k hk)⟩
theorem Mid.copy1 {w0 w w' : World} {m b1 b2 n1 n2 : Nat} {l1 l2 l : List Value} (h : Mid w0 m b1 b2 n1 n2 l1 l2 w) (hs : Save b1 w w') (hc : w'.heap[b1]? = some (.cells l.toArray 5 (0, 0))) : Mid w0 m b1 b2 n1 n2 l l2 w' :=
  ⟨hs.below h.bel h.h1, (hs.block m h.nm1).trans h.mid, hc, (hs.block b2 (Ne.symm h.ne)).trans h.two, h.hm, h.h1, h.h2, h.ne⟩
theorem Mid.copy2 {w0 w w' : World} {m b1 b2 n1 n2 : Nat} {l1 l2 l : List Value} (h : Mid w0 m b1 b2 n1 n2 l1 l2 w) (hs : Save b2 w w') (hc : w'.heap[b2]? = some (.cells l.toArray 5 (0, 0))) : Mid w0 m b1 b2 n1 n2 l1 l w' :=
  ⟨hs.below h.bel h.h2, (hs.block m h.nm2).trans h.mid, (hs.block b1 h.ne).trans h.one, hc, h.hm, h.h1, h.h2, h.ne⟩
theorem Mid.cells {w0 w : World} {m b1 b2 n1 n2 : Nat} {l1 l2 : List Value} (h : Mid w0 m b1 b2 n1 n2 l1 l2 w) : w.cell? ⟨m, 0, none⟩ = some (.slice (some ⟨b1, 0, none⟩) n1 n1) ∧ w.cell? ⟨m, 1, none⟩ = some (.slice (some ⟨b2, 0, none⟩) n2 n2) := by
  unfold World.cell?
  rw [h.mid]
  exact ⟨rfl, rfl⟩
/-- But for the emitter's directives, nothing below has turned. -/
structure Grew (B p : Nat) (w w' : World) : Prop where
  os : w'.os = w.os
  tape : w'.tape = w.tape
  output : w'.output = w.output
  size : w.heap.size ≤ w'.heap.size
  block : ∀ k, k < B → k ≠ p → w'.heap[k]? = w.heap[k]?
  cell : ∀ o, o ≠ 20 → w'.cell? ⟨p, o, none⟩ = w.cell? ⟨p, o, none⟩
  frozen : ∀ o, w'.frozen? ⟨p, o, none⟩ = w.frozen? ⟨p, o, none⟩
theorem Grew.trans {B p : Nat} {a b c : World} (h : Grew B p a b) (k : Grew B p b c) : Grew B p a c :=
  ⟨k.os.trans h.os, k.tape.trans h.tape, k.output.trans h.output, Nat.le_trans h.size k.size, fun i hi hp => (k.block i hi hp).trans (h.block i hi hp), fun o ho => (k.cell o ho).trans (h.cell o ho), fun o => (k.frozen o).trans (h.frozen o)⟩
theorem Grew.below {B p : Nat} {w w' : World} (h : Below B w w') (hp : p < B) : Grew B p w w' :=
  ⟨h.os, h.tape, h.output, h.size, fun k hk _ => h.block k hk, fun o _ => h.cell (p := ⟨p, o, none⟩) hp, fun o => h.frozen (p := ⟨p, o, none⟩) hp⟩
theorem cell_set_other (w : World) (p i o : Nat) (v : Value) (h : o ≠ i) : (w.setCell ⟨p, i, none⟩ v).cell? ⟨p, o, none⟩ = w.cell? ⟨p, o, none⟩ :=
  World.cell?_setCell_other _ _ _ v (fun e => h (by simpa using e.symm))
/-- One directive more. -/
theorem Dirs.added {B p : Nat} {hs ps : List (List Int)} {V : Value} {X : List Value} {w0 w3 w4 w5 : World} {m b1 b2 g cap : Nat} {xs1 xs2 : List Int} (h : Dirs B p hs ps V X w0)
    (hM : Mid w0 m b1 b2 xs1.length xs2.length (nums xs1) (nums xs2) w3) (h4 : Below w3.heap.size w3 w4) (hg : w4.grownBy w5 V.ownBlock) (hv : V.ownBlock = some g ∨ g = w4.heap.size) (hlt : g < w5.heap.size)
    (hown : w5.ownsRow B 74 2 (.slice (some ⟨g, 0, none⟩) (hs.length + 1) cap) (hs.length + 1) (X ++ [.slice (some ⟨b1, 0, none⟩) xs1.length xs1.length, .slice (some ⟨b2, 0, none⟩) xs2.length xs2.length])) :
    Dirs B p (hs ++ [xs1]) (ps ++ [xs2]) (.slice (some ⟨g, 0, none⟩) (hs.length + 1) cap) (X ++ [.slice (some ⟨b1, 0, none⟩) xs1.length xs1.length, .slice (some ⟨b2, 0, none⟩) xs2.length xs2.length]) (w5.setCell ⟨p, 20, none⟩ (.slice (some ⟨g, 0, none⟩) (hs.length + 1) cap)) ∧
      Grew B p w0 (w5.setCell ⟨p, 20, none⟩ (.slice (some ⟨g, 0, none⟩) (hs.length + 1) cap)) := by
  have hp := h.lt
  have hle := h.le
  have hs1 := hM.bel.size
  have hs4 := h4.size
  have hs5 := hg.size
  have hVlt : ∀ k, V.ownBlock = some k → B ≤ k ∧ k < w0.heap.size := fun k hk => h.own.lt k hk
  have hblk : ∀ k, k < w4.heap.size → V.ownBlock ≠ some k → k ≠ p → (w5.setCell ⟨p, 20, none⟩ (.slice (some ⟨g, 0, none⟩) (hs.length + 1) cap)).heap[k]? = w4.heap[k]? := fun k hk hv hkp => (Below.heap_setCell w5 ⟨p, 20, none⟩ _ k hkp).trans (hg.block k hk (Ne.symm hv))
  have hold : ∀ k, k < w0.heap.size → V.ownBlock ≠ some k → k ≠ p → (w5.setCell ⟨p, 20, none⟩ (.slice (some ⟨g, 0, none⟩) (hs.length + 1) cap)).heap[k]? = w0.heap[k]? := fun k hk hv hkp => by
    rw [hblk k (by omega) hv hkp, h4.block k (by omega), hM.bel.block k hk]
  have hgp : g ≠ p := by
    rcases hv with hv | hv
    · have := hVlt g hv; omega
    · omega
  have hpV : V.ownBlock ≠ some p := fun e => by have := hVlt p e; omega
  have hp5 : w5.heap[p]? = w0.heap[p]? := by rw [hg.block p (by omega) (Ne.symm hpV), h4.block p (by omega), hM.bel.block p (by omega)]
  have ownOld : ∀ A xs, Own w0 B V A xs → Own (w5.setCell ⟨p, 20, none⟩ (.slice (some ⟨g, 0, none⟩) (hs.length + 1) cap)) B (.slice (some ⟨g, 0, none⟩) (hs.length + 1) cap) A xs := by
    rintro A xs (e | ⟨b, e, hB, hV, hb⟩)
    · exact .inl e
    · have hb0 := lt_of_get hb
      refine .inr ⟨b, e, hB, ?_, by rw [hold b hb0 hV (by omega)]; exact hb⟩
      intro e
      have e : g = b := by simpa [Value.ownBlock] using e
      subst e
      rcases hv with hv | hv
      · exact hV hv
      · omega
  have ownNew : ∀ b xs, w0.heap.size ≤ b → w3.heap[b]? = some (.cells (nums xs).toArray 5 (0, 0)) → Own (w5.setCell ⟨p, 20, none⟩ (.slice (some ⟨g, 0, none⟩) (hs.length + 1) cap)) B (.slice (some ⟨g, 0, none⟩) (hs.length + 1) cap) (some ⟨b, 0, none⟩) xs := by
    intro b xs hb0 hb
    have hb3 := lt_of_get hb
    have hVb : V.ownBlock ≠ some b := fun e => by have := hVlt b e; omega
    refine .inr ⟨b, rfl, by omega, ?_, by rw [hblk b (by omega) hVb (by omega), h4.block b hb3]; exact hb⟩
    intro e
    have e : g = b := by simpa [Value.ownBlock] using e
    subst e
    rcases hv with hv | hv
    · exact hVb hv
    · omega
  have hXl : X.length = 2 * hs.length := by have := h.own.1; omega
  refine ⟨⟨?_, ?_, ?_, by simp [h.len], hp, by simp; omega, ?_⟩, ⟨?_, ?_, ?_, by simp; omega, ?_, ?_, ?_⟩⟩
  · have := h.cell
    unfold World.cell? at this
    have hc : (w5.cell? ⟨p, 20, none⟩).isSome := by
      unfold World.cell?
      rw [hp5]
      rw [this]
      rfl
    obtain ⟨v, hv⟩ := Option.isSome_iff_exists.1 hc
    exact World.cell?_setCell_same _ _ _ hv
  · have := h.free
    rw [World.frozen?_setCell]
    unfold World.frozen? at this ⊢
    rw [hp5]
    exact this
  · rw [List.length_append]
    refine ⟨hown.1, ?_⟩
    rcases hown.2 with ⟨h1, _⟩ | ⟨g', cap', cur, hv', hB', hg', h6⟩
    · cases h1
    · refine .inr ⟨g', cap', cur, hv', hB', ?_, h6⟩
      have : g' = g := by simp at hv'; omega
      subst this
      rw [Below.heap_setCell _ _ _ _ hgp]
      exact hg'
  · intro i hi
    rw [List.length_append] at hi
    simp at hi
    by_cases hlast : i < hs.length
    · obtain ⟨A, c, A', c', h1, h2, h3, h4⟩ := h.at i hlast
      have e1 : (hs ++ [xs1]).getD i [] = hs.getD i [] := by rw [List.getD_eq_getElem?_getD, List.getD_eq_getElem?_getD, List.getElem?_append_left hlast]
      have e2 : (ps ++ [xs2]).getD i [] = ps.getD i [] := by rw [List.getD_eq_getElem?_getD, List.getD_eq_getElem?_getD, List.getElem?_append_left (by rw [h.len]; exact hlast)]
      rw [e1, e2]
      refine ⟨A, c, A', c', ?_, ?_, ownOld _ _ h3, ownOld _ _ h4⟩
      · rw [List.getElem?_append_left (by omega)]; exact h1
      · rw [List.getElem?_append_left (by omega)]; exact h2
    · obtain rfl : i = hs.length := by omega
      have e1 : (hs ++ [xs1]).getD hs.length [] = xs1 := by rw [List.getD_eq_getElem?_getD, List.getElem?_append_right (Nat.le_refl _), Nat.sub_self]; rfl
      have e2 : (ps ++ [xs2]).getD hs.length [] = xs2 := by rw [← h.len, List.getD_eq_getElem?_getD, List.getElem?_append_right (Nat.le_refl _), Nat.sub_self]; rfl
      rw [e1, e2]
      refine ⟨some ⟨b1, 0, none⟩, xs1.length, some ⟨b2, 0, none⟩, xs2.length, ?_, ?_, ownNew b1 xs1 hM.h1 hM.one, ownNew b2 xs2 hM.h2 hM.two⟩
      · rw [← hXl, List.getElem?_append_right (Nat.le_refl _), Nat.sub_self]; rfl
      · rw [← hXl, List.getElem?_append_right (by omega), Nat.add_sub_cancel_left]; rfl
  · simp [World.setCell, hg.os, h4.os, hM.bel.os]
  · simp [World.setCell, hg.tape, h4.tape, hM.bel.tape]
  · simp [World.setCell, hg.output, h4.output, hM.bel.output]
  · intro k hk hkp
    exact hold k (by omega) (fun e => by have := hVlt k e; omega) hkp
  · intro o ho
    rw [cell_set_other _ _ _ _ _ ho]
    exact World.cell?_of_block (w := w0) (a := ⟨p, o, none⟩) hp5
  · intro o
    rw [World.frozen?_setCell]
    exact World.frozen?_of_block (w := w0) (a := ⟨p, o, none⟩) hp5
end Go.Proofs.Ytccmflnkhabilaa.Tg
