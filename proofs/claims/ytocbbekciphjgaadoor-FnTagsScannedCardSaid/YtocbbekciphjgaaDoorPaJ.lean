/- The reader of a parser in the midst of a call: more plain laws of the world. -/
import Derived.Test.YtocbbekciphjgaaDoorPaI
namespace Go.Proofs.YtocbbekciphjgaaDoor.Pa
open Go.RowKit Go.Proofs.YtocbbekciphjgaaDoor.Rdp
set_option linter.unusedVariables false
set_option linter.unusedSimpArgs false
/-- The cells that the reader looks at. -/
def rdOwn (j : Nat) : Prop := j = 11 ∨ j = 13 ∨ j = 14 ∨ j = 15 ∨ j = 17 ∨ j = 18 ∨ j = 20 ∨ j = 21 ∨ j = 23
theorem kp_sub {k : Kn} {p : Nat} {w w' : World} (h : Kp [p] w w') : Kp (k.bs p) w w' := h.mono fun b hb => by simp at hb; subst hb; exact k.mp b
theorem kq_sub {k : Kn} {p : Nat} {w w' : World} (h : Kp [k.q] w w') : Kp (k.bs p) w w' := h.mono fun b hb => by simp at hb; subst hb; exact k.mq p
/-- Other cells of the parser have turned. -/
theorem Lay.cells {k : Kn} {p c u bp bl rl rpos ip : Nat} {eof : Bool} {L RL BL L' : List Value} {w w' : World} (h : Lay k p c u bp bl rl rpos ip eof L RL BL w) (ok : k.Ok p) (hb : Bk w' p 120 L') (hl : L'.length = 52) (hk : Kp [p] w w') (ho : ∀ j, rdOwn j → L'[j]? = L[j]?) :
    Lay k p c u bp bl rl rpos ip eof L' RL BL w' := by
  have h2 : 2 ∉ [p] := (ok.sub ok.two).2.2.1
  unfold rdOwn at ho
  refine ⟨hb, hl, h.rb.kp hk (by simp; exact Ne.symm ok.pr), h.rlen, h.qb.kp hk (by simp; exact Ne.symm ok.pq), h.qlen, h.qall, h.inp.kp (kp_sub (k := k) hk) ok.src, (hk.cell (x := ⟨2, 0, none⟩) (World.block_lt_of_cell? w ⟨2, 0, none⟩ h.ev) h2).trans h.ev, ?_, ?_, ?_, ?_, ?_, ?_, ?_, ?_, ?_, h.hip, h.hrl, h.hrpos, h.hraw, h.hbp, h.hbl, h.buf, h.raw⟩
  · exact (ho 11 (by omega)).trans h.at11
  · exact (ho 13 (by omega)).trans h.at13
  · exact (ho 14 (by omega)).trans h.at14
  · exact (ho 15 (by omega)).trans h.at15
  · exact (ho 17 (by omega)).trans h.at17
  · exact (ho 18 (by omega)).trans h.at18
  · exact (ho 20 (by omega)).trans h.at20
  · exact (ho 21 (by omega)).trans h.at21
  · exact (ho 23 (by omega)).trans h.at23
theorem Lay.drewN {k : Kn} {p c u bp bl rl rpos ip : Nat} {eof : Bool} {L RL BL : List Value} {w : World} (h : Lay k p c u bp bl rl rpos ip eof L RL BL w) (n : Nat) : Lay k p c u bp bl rl rpos ip eof L RL BL (w.drewN n) :=
  ⟨h.pb, h.plen, h.rb, h.rlen, h.qb, h.qlen, h.qall, h.inp, h.ev, h.at11, h.at13, h.at14, h.at15, h.at17, h.at18, h.at20, h.at21, h.at23, h.hip, h.hrl, h.hrpos, h.hraw, h.hbp, h.hbl, h.buf, h.raw⟩
theorem Rdr.drewN {k : Kn} {p c u bp bl : Nat} {L : List Value} {w : World} (h : Rdr k p c u bp bl L w) (n : Nat) : Rdr k p c u bp bl L (w.drewN n) := by
  obtain ⟨rl, rpos, ip, eof, RL, BL, st, h1, h22, hm⟩ := h.ex
  exact ⟨h.ok, h.at16, h.bd, rl, rpos, ip, eof, RL, BL, st, h1.drewN n, h22, hm⟩
/-- What is ready has been moved to the buffer's beginning. -/
theorem Lay.moved {k : Kn} {p c u bp bl rl rpos ip : Nat} {eof : Bool} {L RL BL : List Value} {w : World} (h : Lay k p c u bp bl rl rpos ip eof L RL BL w) (ok : k.Ok p) (cs : List Value) (hcs : cs.length = bl - bp) (hc : ∀ i, i < bl - bp → cs[i]? = BL[bp + i]?) :
    Lay k p c u 0 (bl - bp) rl rpos ip eof (L.set 17 (.int .i64 0)) RL (splice BL 0 cs) ((w.setRow k.q (splice BL 0 cs).toArray).setCell ⟨p, 17, none⟩ (.int .i64 0)) := by
  have hq := h.qlen
  have hbl := h.hbl
  have hpl := h.plen
  have hk : Kp [k.q] w (w.setRow k.q (splice BL 0 cs).toArray) := (Kp.refl _ _).setRow k.q _ (by simp)
  have hk2 : Kp (k.bs p) w ((w.setRow k.q (splice BL 0 cs).toArray).setCell ⟨p, 17, none⟩ (.int .i64 0)) := (kq_sub hk).setCell p 17 _ (k.mp p)
  have hsl : (splice BL 0 cs).length = 1536 := by rw [length_splice _ _ _ (by omega)]; exact hq
  have hat : ∀ i, i < bl - bp → (splice BL 0 cs)[i]? = BL[bp + i]? := fun i hi => by rw [splice_at _ _ _ (by omega), if_neg (by omega), if_pos (by omega), Nat.sub_zero]; exact hc i hi
  refine ⟨((Bk.kp h.pb hk (by simp; exact ok.pq))).set 17 _, by simp only [List.length_set]; exact hpl, (h.rb.kp hk (by simp; exact ok.rq)).other p 17 _ (Ne.symm ok.pr), h.rlen, (h.qb.row _).other p 17 _ (Ne.symm ok.pq), hsl, ?_, h.inp.kp hk2 ok.src, (hk2.cell (x := ⟨2, 0, none⟩) (World.block_lt_of_cell? w ⟨2, 0, none⟩ h.ev) ok.two).trans h.ev, ?_, ?_, ?_, ?_, ?_, ?_, ?_, ?_, ?_, h.hip, h.hrl, h.hrpos, h.hraw, by omega, by omega, ?_, h.raw⟩
  · intro i hi
    by_cases hlt : i < bl - bp
    · rw [hat i hlt]; exact h.qall _ (by omega)
    · rw [splice_at _ _ _ (by omega), if_neg (by omega), if_neg (by omega)]; exact h.qall i hi
  · rw [lset_ne (by omega)]; exact h.at11
  · rw [lset_ne (by omega)]; exact h.at13
  · rw [lset_ne (by omega)]; exact h.at14
  · rw [lset_ne (by omega)]; exact h.at15
  · rw [lset_at (by omega)]; rfl
  · rw [lset_ne (by omega)]; exact h.at18
  · rw [lset_ne (by omega)]; exact h.at20
  · rw [lset_ne (by omega)]; exact h.at21
  · rw [lset_ne (by omega)]; exact h.at23
  · intro i hi
    rw [Nat.zero_add, hat i (by omega)]
    exact h.buf i (by omega)
/-- Nothing lay ready. -/
theorem Lay.empty {k : Kn} {p c u bp bl rl rpos ip : Nat} {eof : Bool} {L RL BL : List Value} {w : World} (h : Lay k p c u bp bl rl rpos ip eof L RL BL w) (ok : k.Ok p) (he : bp = bl) :
    Lay k p c u 0 0 rl rpos ip eof (L.set 17 (.int .i64 0)) RL BL (w.setCell ⟨p, 17, none⟩ (.int .i64 0)) := by
  have hpl := h.plen
  have hk : Kp [p] w (w.setCell ⟨p, 17, none⟩ (.int .i64 0)) := (Kp.refl _ _).setCell p 17 _ (by simp)
  have h2 : 2 ∉ [p] := (ok.sub ok.two).2.2.1
  refine ⟨h.pb.set 17 _, by simp only [List.length_set]; exact hpl, h.rb.kp hk (by simp; exact Ne.symm ok.pr), h.rlen, h.qb.kp hk (by simp; exact Ne.symm ok.pq), h.qlen, h.qall, h.inp.kp (kp_sub (k := k) hk) ok.src, (hk.cell (x := ⟨2, 0, none⟩) (World.block_lt_of_cell? w ⟨2, 0, none⟩ h.ev) h2).trans h.ev, ?_, ?_, ?_, ?_, ?_, ?_, ?_, ?_, ?_, h.hip, h.hrl, h.hrpos, h.hraw, by omega, by omega, fun i hi => by omega, h.raw⟩
  · rw [lset_ne (by omega)]; exact h.at11
  · rw [lset_ne (by omega)]; exact h.at13
  · rw [lset_ne (by omega)]; exact h.at14
  · rw [lset_ne (by omega)]; exact h.at15
  · rw [lset_at (by omega)]; rfl
  · rw [lset_ne (by omega)]; exact h.at18
  · rw [lset_ne (by omega)]; exact h.at20
  · rw [lset_ne (by omega)]; exact h.at21
  · rw [lset_ne (by omega)]; exact h.at23
/-- A nought is laid behind what is ready. -/
theorem Lay.nought {k : Kn} {p c u bl rl rpos ip : Nat} {eof : Bool} {L RL BL : List Value} {w : World} (h : Lay k p c u 0 bl rl rpos ip eof L RL BL w) (ok : k.Ok p) (hout : k.T.length ≤ c + bl) (hbl : bl ≤ 540) :
    Lay k p c u 0 (bl + 1) rl rpos ip eof L RL (BL.set bl (.int .u8 0)) (w.setCell ⟨k.q, bl, none⟩ (.int .u8 0)) := by
  have hq := h.qlen
  have hk : Kp [k.q] w (w.setCell ⟨k.q, bl, none⟩ (.int .u8 0)) := (Kp.refl _ _).setCell k.q bl _ (by simp)
  have h2 : 2 ∉ [k.q] := (ok.sub ok.two).2.2.2
  refine ⟨h.pb.kp hk (by simp; exact ok.pq), h.plen, h.rb.kp hk (by simp; exact ok.rq), h.rlen, h.qb.set bl _, by simp only [List.length_set]; exact hq, ?_, h.inp.kp (kq_sub (p := p) hk) ok.src, (hk.cell (x := ⟨2, 0, none⟩) (World.block_lt_of_cell? w ⟨2, 0, none⟩ h.ev) h2).trans h.ev, h.at11, h.at13, h.at14, h.at15, h.at17, h.at18, h.at20, h.at21, h.at23, h.hip, h.hrl, h.hrpos, h.hraw, by omega, by omega, ?_, h.raw⟩
  · intro i hi
    by_cases e : i = bl
    · subst e; exact ⟨0, lset_at (by omega)⟩
    · rw [lset_ne e]; exact h.qall i hi
  · intro i hi
    rw [Nat.zero_add]
    by_cases e : i = bl
    · subst e; rw [lset_at (by omega), S_out hout]; rfl
    · rw [lset_ne e]
      have := h.buf i (by omega)
      rw [Nat.zero_add] at this
      exact this
/-- The count of the characters that lie ready has turned. -/
theorem Lay.count {k : Kn} {p c u bp bl rl rpos ip u' : Nat} {eof : Bool} {L RL BL : List Value} {w : World} (h : Lay k p c u bp bl rl rpos ip eof L RL BL w) (ok : k.Ok p) {v : Int} (hv : v = (u' : Nat)) :
    Lay k p c u' bp bl rl rpos ip eof (L.set 18 (.int .i64 v)) RL BL (w.setCell ⟨p, 18, none⟩ (.int .i64 v)) := by
  have hpl := h.plen
  have hk : Kp [p] w (w.setCell ⟨p, 18, none⟩ (.int .i64 v)) := (Kp.refl _ _).setCell p 18 _ (by simp)
  have h2 : 2 ∉ [p] := (ok.sub ok.two).2.2.1
  refine ⟨h.pb.set 18 _, by simp only [List.length_set]; exact hpl, h.rb.kp hk (by simp; exact Ne.symm ok.pr), h.rlen, h.qb.kp hk (by simp; exact Ne.symm ok.pq), h.qlen, h.qall, h.inp.kp (kp_sub (k := k) hk) ok.src, (hk.cell (x := ⟨2, 0, none⟩) (World.block_lt_of_cell? w ⟨2, 0, none⟩ h.ev) h2).trans h.ev, ?_, ?_, ?_, ?_, ?_, ?_, ?_, ?_, ?_, h.hip, h.hrl, h.hrpos, h.hraw, h.hbp, h.hbl, h.buf, h.raw⟩
  · rw [lset_ne (by omega)]; exact h.at11
  · rw [lset_ne (by omega)]; exact h.at13
  · rw [lset_ne (by omega)]; exact h.at14
  · rw [lset_ne (by omega)]; exact h.at15
  · rw [lset_ne (by omega)]; exact h.at17
  · rw [lset_at (by omega), hv]
  · rw [lset_ne (by omega)]; exact h.at20
  · rw [lset_ne (by omega)]; exact h.at21
  · rw [lset_ne (by omega)]; exact h.at23
/-- What is left by a call. -/
def Upd (k : Kn) (p c u n : Nat) (L : List Value) (w w' : World) : Prop :=
  ∃ u' bp' bl' L', Rdr k p c u' bp' bl' L' w' ∧ 1 ≤ u' ∧ u ≤ u' ∧ n ≤ bl' - bp' ∧ (∀ j, rdOff j → L'[j]? = L[j]?) ∧ Kp (k.bs p) w w' ∧ w'.heap.size = w.heap.size
theorem adv_four (T : List Int) (c u : Nat) : adv T c u ≤ c + 4 * u := (adv_le T c u).2
theorem adv_ge (T : List Int) (c u : Nat) : c + u ≤ adv T c u := (adv_le T c u).1
/-- Enough characters lay ready. -/
theorem upd_same {k : Kn} {p c u bp bl n : Nat} {L : List Value} {w : World} (h : Rdr k p c u bp bl L w) (hn : 1 ≤ n) (hu : n ≤ u) (d : Nat) : Upd k p c u n L w (w.drewN d) := by
  have h1 := h.ready n hu
  have h2 := adv_ge k.T c n
  have h3 := h.small
  exact ⟨u, bp, bl, L, h.drewN d, by omega, Nat.le_refl _, by omega, fun _ _ => rfl, (Kp.refl _ _).drewN d, rfl⟩
/-- The call ends: the buffer is cut. -/
theorem Lay.shut {k : Kn} {p c u bl rl rpos ip : Nat} {eof : Bool} {L0 L RL BL : List Value} {w0 w : World} (h : Lay k p c u 0 bl rl rpos ip eof L RL BL w) (ok : k.Ok p) (hbd : c < k.T.length → Bd k.T c) (h22 : L[22]? = some (.int .i64 1))
    (hm : (ModeA k.T c u bl (rl - rpos) ip ∧ eof = false) ∨ ModeB k.T c u bl (rl - rpos) ip eof) (hold : ∀ j, rdOff j → L[j]? = L0[j]?) (hkp : Kp (k.bs p) w0 w) (hsz : w.heap.size = w0.heap.size) {n u0 : Nat} (hu : 1 ≤ u) (hu0 : u0 ≤ u) (hn : n ≤ bl) :
    Upd k p c u0 n L0 w0 (w.setCell ⟨p, 16, none⟩ (.slice (some ⟨k.q, 0, none⟩) bl 1536)) := by
  have hpl := h.plen
  have hk : Kp [p] w (w.setCell ⟨p, 16, none⟩ (.slice (some ⟨k.q, 0, none⟩) bl 1536)) := (Kp.refl _ _).setCell p 16 _ (by simp)
  refine ⟨u, 0, bl, L.set 16 (.slice (some ⟨k.q, 0, none⟩) bl 1536), ⟨ok, lset_at (by omega), hbd, rl, rpos, ip, eof, RL, BL, true, h.cells ok (h.pb.set 16 _) (by simp only [List.length_set]; exact hpl) hk (fun j hj => by unfold rdOwn at hj; exact lset_ne (by omega)), by rw [lset_ne (by omega)]; exact h22, ?_⟩, hu, hu0, by omega, fun j hj => ?_, hkp.trans (kp_sub hk), by simp; exact hsz⟩
  · rw [Nat.sub_zero]
    rcases hm with ⟨hA, he⟩ | hB
    · exact .inl ⟨hA, he, fun h => by cases h⟩
    · exact .inr ⟨hB, rfl⟩
  · unfold rdOff at hj
    rw [lset_ne (by omega)]
    exact hold j (by unfold rdOff; omega)
end Go.Proofs.YtocbbekciphjgaaDoor.Pa
