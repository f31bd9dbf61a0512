/- PaJ, Wd, ScA, AnA: parts of the proof, one behind another. -/
import Derived.Test.YtocbbekciphjgaaDoorRows
import Derived.WalkKit
import Derived.WalkSpells
import Derived.WalkLawsBesides
import Derived.StillTail
import Derived.StillTactics
import Derived.Deep.Cut
import Derived.Deep.CutRange
import Derived.BigGuard
import Derived.BigCall
import Derived.Test.YtocbbekciphjgaaDoorMz5
/- PaJ -/
/- The reader of a parser in the midst of a call: more plain laws of the world. -/
namespace Go.Proofs.YtocbbekciphjgaaDoor.Pa
open Go.RowKit Go.Proofs.YtocbbekciphjgaaDoor.Rdp
set_option linter.unusedVariables false
set_option linter.unusedSimpArgs false
/-- The cells that the reader looks at. -/
def rdOwn (j : Nat) : Prop := j = 11 ∨ j = 13 ∨ j = 14 ∨ j = 15 ∨ j = 17 ∨ j = 18 ∨ j = 20 ∨ j = 21 ∨ j = 23
theorem kp_sub {k : Kn} {p : Nat} {w w' : World} (h : Kp [p] w w') : Kp (k.bs p) w w' := h.mono fun b hb => by simp at hb; subst hb; exact k.mp b
theorem kq_sub {k : Kn} {p : Nat} {w w' : World} (h : Kp [k.q] w w') : Kp (k.bs p) w w' := h.mono fun b hb => by simp at hb; subst hb; exact k.mq p
/-- Other cells of the parser have turned. -/
theorem Lay.cells {k : Kn} {p c u bp bl rl rpos ip : Nat} {eof : Bool} {L RL BL L' : List Value} {w w' : World} (h : Lay k p c u bp bl rl rpos ip eof L RL BL w) (ok : k.Ok p) (hb : Bk w' p 120 L') (hl : L'.length = 52) (hk : Kp [p] w w') (ho : ∀ j, rdOwn j → L'[j]? = L[j]?) :
    Lay k p c u bp bl rl rpos ip eof L' RL BL w' := by
  have h2 : 2 ∉ [p] := (ok.sub ok.two).2.2.1
  unfold rdOwn at ho
  refine ⟨hb, hl, h.rb.kp hk (by simp; exact Ne.symm ok.pr), h.rlen, h.qb.kp hk (by simp; exact Ne.symm ok.pq), h.qlen, h.qall, h.inp.kp (kp_sub (k := k) hk) ok.src, (hk.cell (x := ⟨2, 0, none⟩) (World.block_lt_of_cell? w ⟨2, 0, none⟩ h.ev) h2).trans h.ev, ?_, ?_, ?_, ?_, ?_, ?_, ?_, ?_, ?_, h.hip, h.hrl, h.hrpos, h.hraw, h.hbp, h.hbl, h.buf, h.raw⟩
  · exact (ho 11 (by omega)).trans h.at11
  · exact (ho 13 (by omega)).trans h.at13
  · exact (ho 14 (by omega)).trans h.at14
  · exact (ho 15 (by omega)).trans h.at15
  · exact (ho 17 (by omega)).trans h.at17
  · exact (ho 18 (by omega)).trans h.at18
  · exact (ho 20 (by omega)).trans h.at20
  · exact (ho 21 (by omega)).trans h.at21
  · exact (ho 23 (by omega)).trans h.at23
theorem Lay.drewN {k : Kn} {p c u bp bl rl rpos ip : Nat} {eof : Bool} {L RL BL : List Value} {w : World} (h : Lay k p c u bp bl rl rpos ip eof L RL BL w) (n : Nat) : Lay k p c u bp bl rl rpos ip eof L RL BL (w.drewN n) :=
  ⟨h.pb, h.plen, h.rb, h.rlen, h.qb, h.qlen, h.qall, h.inp, h.ev, h.at11, h.at13, h.at14, h.at15, h.at17, h.at18, h.at20, h.at21, h.at23, h.hip, h.hrl, h.hrpos, h.hraw, h.hbp, h.hbl, h.buf, h.raw⟩
theorem Rdr.drewN {k : Kn} {p c u bp bl : Nat} {L : List Value} {w : World} (h : Rdr k p c u bp bl L w) (n : Nat) : Rdr k p c u bp bl L (w.drewN n) := by
  obtain ⟨rl, rpos, ip, eof, RL, BL, st, h1, h22, hm⟩ := h.ex
  exact ⟨h.ok, h.at16, h.bd, rl, rpos, ip, eof, RL, BL, st, h1.drewN n, h22, hm⟩
/-- What is ready has been moved to the buffer's beginning. -/
theorem Lay.moved {k : Kn} {p c u bp bl rl rpos ip : Nat} {eof : Bool} {L RL BL : List Value} {w : World} (h : Lay k p c u bp bl rl rpos ip eof L RL BL w) (ok : k.Ok p) (cs : List Value) (hcs : cs.length = bl - bp) (hc : ∀ i, i < bl - bp → cs[i]? = BL[bp + i]?) :
    Lay k p c u 0 (bl - bp) rl rpos ip eof (L.set 17 (.int .i64 0)) RL (splice BL 0 cs) ((w.setRow k.q (splice BL 0 cs).toArray).setCell ⟨p, 17, none⟩ (.int .i64 0)) := by
  have hq := h.qlen
  have hbl := h.hbl
  have hpl := h.plen
  have hk : Kp [k.q] w (w.setRow k.q (splice BL 0 cs).toArray) := (Kp.refl _ _).setRow k.q _ (by simp)
  have hk2 : Kp (k.bs p) w ((w.setRow k.q (splice BL 0 cs).toArray).setCell ⟨p, 17, none⟩ (.int .i64 0)) := (kq_sub hk).setCell p 17 _ (k.mp p)
  have hsl : (splice BL 0 cs).length = 1536 := by rw [length_splice _ _ _ (by omega)]; exact hq
  have hat : ∀ i, i < bl - bp → (splice BL 0 cs)[i]? = BL[bp + i]? := fun i hi => by rw [splice_at _ _ _ (by omega), if_neg (by omega), if_pos (by omega), Nat.sub_zero]; exact hc i hi
  refine ⟨((Bk.kp h.pb hk (by simp; exact ok.pq))).set 17 _, by simp only [List.length_set]; exact hpl, (h.rb.kp hk (by simp; exact ok.rq)).other p 17 _ (Ne.symm ok.pr), h.rlen, (h.qb.row _).other p 17 _ (Ne.symm ok.pq), hsl, ?_, h.inp.kp hk2 ok.src, (hk2.cell (x := ⟨2, 0, none⟩) (World.block_lt_of_cell? w ⟨2, 0, none⟩ h.ev) ok.two).trans h.ev, ?_, ?_, ?_, ?_, ?_, ?_, ?_, ?_, ?_, h.hip, h.hrl, h.hrpos, h.hraw, by omega, by omega, ?_, h.raw⟩
  · intro i hi
    by_cases hlt : i < bl - bp
    · rw [hat i hlt]; exact h.qall _ (by omega)
    · rw [splice_at _ _ _ (by omega), if_neg (by omega), if_neg (by omega)]; exact h.qall i hi
  · rw [lset_ne (by omega)]; exact h.at11
  · rw [lset_ne (by omega)]; exact h.at13
  · rw [lset_ne (by omega)]; exact h.at14
  · rw [lset_ne (by omega)]; exact h.at15
  · rw [lset_at (by omega)]; rfl
  · rw [lset_ne (by omega)]; exact h.at18
  · rw [lset_ne (by omega)]; exact h.at20
  · rw [lset_ne (by omega)]; exact h.at21
  · rw [lset_ne (by omega)]; exact h.at23
  · intro i hi
    rw [Nat.zero_add, hat i (by omega)]
    exact h.buf i (by omega)
/-- Nothing lay ready. -/
theorem Lay.empty {k : Kn} {p c u bp bl rl rpos ip : Nat} {eof : Bool} {L RL BL : List Value} {w : World} (h : Lay k p c u bp bl rl rpos ip eof L RL BL w) (ok : k.Ok p) (he : bp = bl) :
    Lay k p c u 0 0 rl rpos ip eof (L.set 17 (.int .i64 0)) RL BL (w.setCell ⟨p, 17, none⟩ (.int .i64 0)) := by
  have hpl := h.plen
  have hk : Kp [p] w (w.setCell ⟨p, 17, none⟩ (.int .i64 0)) := (Kp.refl _ _).setCell p 17 _ (by simp)
  have h2 : 2 ∉ [p] := (ok.sub ok.two).2.2.1
  refine ⟨h.pb.set 17 _, by simp only [List.length_set]; exact hpl, h.rb.kp hk (by simp; exact Ne.symm ok.pr), h.rlen, h.qb.kp hk (by simp; exact Ne.symm ok.pq), h.qlen, h.qall, h.inp.kp (kp_sub (k := k) hk) ok.src, (hk.cell (x := ⟨2, 0, none⟩) (World.block_lt_of_cell? w ⟨2, 0, none⟩ h.ev) h2).trans h.ev, ?_, ?_, ?_, ?_, ?_, ?_, ?_, ?_, ?_, h.hip, h.hrl, h.hrpos, h.hraw, by omega, by omega, fun i hi => by omega, h.raw⟩
  · rw [lset_ne (by omega)]; exact h.at11
  · rw [lset_ne (by omega)]; exact h.at13
  · rw [lset_ne (by omega)]; exact h.at14
  · rw [lset_ne (by omega)]; exact h.at15
  · rw [lset_at (by omega)]; rfl
  · rw [lset_ne (by omega)]; exact h.at18
  · rw [lset_ne (by omega)]; exact h.at20
  · rw [lset_ne (by omega)]; exact h.at21
  · rw [lset_ne (by omega)]; exact h.at23
/-- A nought is laid behind what is ready. -/
theorem Lay.nought {k : Kn} {p c u bl rl rpos ip : Nat} {eof : Bool} {L RL BL : List Value} {w : World} (h : Lay k p c u 0 bl rl rpos ip eof L RL BL w) (ok : k.Ok p) (hout : k.T.length ≤ c + bl) (hbl : bl ≤ 540) :
    Lay k p c u 0 (bl + 1) rl rpos ip eof L RL (BL.set bl (.int .u8 0)) (w.setCell ⟨k.q, bl, none⟩ (.int .u8 0)) := by
  have hq := h.qlen
  have hk : Kp [k.q] w (w.setCell ⟨k.q, bl, none⟩ (.int .u8 0)) := (Kp.refl _ _).setCell k.q bl _ (by simp)
  have h2 : 2 ∉ [k.q] := (ok.sub ok.two).2.2.2
  refine ⟨h.pb.kp hk (by simp; exact ok.pq), h.plen, h.rb.kp hk (by simp; exact ok.rq), h.rlen, h.qb.set bl _, by simp only [List.length_set]; exact hq, ?_, h.inp.kp (kq_sub (p := p) hk) ok.src, (hk.cell (x := ⟨2, 0, none⟩) (World.block_lt_of_cell? w ⟨2, 0, none⟩ h.ev) h2).trans h.ev, h.at11, h.at13, h.at14, h.at15, h.at17, h.at18, h.at20, h.at21, h.at23, h.hip, h.hrl, h.hrpos, h.hraw, by omega, by omega, ?_, h.raw⟩
  · intro i hi
    by_cases e : i = bl
    · subst e; exact ⟨0, lset_at (by omega)⟩
    · rw [lset_ne e]; exact h.qall i hi
  · intro i hi
    rw [Nat.zero_add]
    by_cases e : i = bl
    · subst e; rw [lset_at (by omega), S_out hout]; rfl
    · rw [lset_ne e]
      have := h.buf i (by omega)
      rw [Nat.zero_add] at this
      exact this
/-- The count of the characters that lie ready has turned. -/
theorem Lay.count {k : Kn} {p c u bp bl rl rpos ip u' : Nat} {eof : Bool} {L RL BL : List Value} {w : World} (h : Lay k p c u bp bl rl rpos ip eof L RL BL w) (ok : k.Ok p) {v : Int} (hv : v = (u' : Nat)) :
    Lay k p c u' bp bl rl rpos ip eof (L.set 18 (.int .i64 v)) RL BL (w.setCell ⟨p, 18, none⟩ (.int .i64 v)) := by
  have hpl := h.plen
  have hk : Kp [p] w (w.setCell ⟨p, 18, none⟩ (.int .i64 v)) := (Kp.refl _ _).setCell p 18 _ (by simp)
  have h2 : 2 ∉ [p] := (ok.sub ok.two).2.2.1
  refine ⟨h.pb.set 18 _, by simp only [List.length_set]; exact hpl, h.rb.kp hk (by simp; exact Ne.symm ok.pr), h.rlen, h.qb.kp hk (by simp; exact Ne.symm ok.pq), h.qlen, h.qall, h.inp.kp (kp_sub (k := k) hk) ok.src, (hk.cell (x := ⟨2, 0, none⟩) (World.block_lt_of_cell? w ⟨2, 0, none⟩ h.ev) h2).trans h.ev, ?_, ?_, ?_, ?_, ?_, ?_, ?_, ?_, ?_, h.hip, h.hrl, h.hrpos, h.hraw, h.hbp, h.hbl, h.buf, h.raw⟩
  · rw [lset_ne (by omega)]; exact h.at11
  · rw [lset_ne (by omega)]; exact h.at13
  · rw [lset_ne (by omega)]; exact h.at14
  · rw [lset_ne (by omega)]; exact h.at15
  · rw [lset_ne (by omega)]; exact h.at17
  · rw [lset_at (by omega), hv]
  · rw [lset_ne (by omega)]; exact h.at20
  · rw [lset_ne (by omega)]; exact h.at21
  · rw [lset_ne (by omega)]; exact h.at23
/-- What is left by a call. -/
def Upd (k : Kn) (p c u n : Nat) (L : List Value) (w w' : World) : Prop :=
  ∃ u' bp' bl' L', Rdr k p c u' bp' bl' L' w' ∧ 1 ≤ u' ∧ u ≤ u' ∧ n ≤ bl' - bp' ∧ (∀ j, rdOff j → L'[j]? = L[j]?) ∧ Kp (k.bs p) w w' ∧ w'.heap.size = w.heap.size ∧ (n ≤ u' ∨ k.T.length ≤ adv k.T c u')
theorem adv_four (T : List Int) (c u : Nat) : adv T c u ≤ c + 4 * u := (adv_le T c u).2
theorem adv_ge (T : List Int) (c u : Nat) : c + u ≤ adv T c u := (adv_le T c u).1
/-- Enough characters lay ready. -/
theorem upd_same {k : Kn} {p c u bp bl n : Nat} {L : List Value} {w : World} (h : Rdr k p c u bp bl L w) (hn : 1 ≤ n) (hu : n ≤ u) (d : Nat) : Upd k p c u n L w (w.drewN d) := by
  have h1 := h.ready n hu
  have h2 := adv_ge k.T c n
  have h3 := h.small
  exact ⟨u, bp, bl, L, h.drewN d, by omega, Nat.le_refl _, by omega, fun _ _ => rfl, (Kp.refl _ _).drewN d, rfl, .inl hu⟩
/-- The call ends: the buffer is cut. -/
theorem Lay.shut {k : Kn} {p c u bl rl rpos ip : Nat} {eof : Bool} {L0 L RL BL : List Value} {w0 w : World} (h : Lay k p c u 0 bl rl rpos ip eof L RL BL w) (ok : k.Ok p) (hbd : c < k.T.length → Bd k.T c) (h22 : L[22]? = some (.int .i64 1))
    (hm : (ModeA k.T c u bl (rl - rpos) ip ∧ eof = false) ∨ ModeB k.T c u bl (rl - rpos) ip eof) (hold : ∀ j, rdOff j → L[j]? = L0[j]?) (hkp : Kp (k.bs p) w0 w) (hsz : w.heap.size = w0.heap.size) {n u0 : Nat} (hu : 1 ≤ u) (hu0 : u0 ≤ u) (hn : n ≤ bl) (hnu : n ≤ u ∨ k.T.length ≤ adv k.T c u) :
    Upd k p c u0 n L0 w0 (w.setCell ⟨p, 16, none⟩ (.slice (some ⟨k.q, 0, none⟩) bl 1536)) := by
  have hpl := h.plen
  have hk : Kp [p] w (w.setCell ⟨p, 16, none⟩ (.slice (some ⟨k.q, 0, none⟩) bl 1536)) := (Kp.refl _ _).setCell p 16 _ (by simp)
  refine ⟨u, 0, bl, L.set 16 (.slice (some ⟨k.q, 0, none⟩) bl 1536), ⟨ok, lset_at (by omega), hbd, rl, rpos, ip, eof, RL, BL, true, h.cells ok (h.pb.set 16 _) (by simp only [List.length_set]; exact hpl) hk (fun j hj => by unfold rdOwn at hj; exact lset_ne (by omega)), by rw [lset_ne (by omega)]; exact h22, ?_⟩, hu, hu0, by omega, fun j hj => ?_, hkp.trans (kp_sub hk), by simp; exact hsz, hnu⟩
  · rw [Nat.sub_zero]
    rcases hm with ⟨hA, he⟩ | hB
    · exact .inl ⟨hA, he, fun h => by cases h⟩
    · exact .inr ⟨hB, rfl⟩
  · unfold rdOff at hj
    rw [lset_ne (by omega)]
    exact hold j (by unfold rdOff; omega)
end Go.Proofs.YtocbbekciphjgaaDoor.Pa
/- Wd -/
/- How many bytes a character has by its first byte (width), walked. -/
namespace Go.Proofs.YtocbbekciphjgaaDoor.Wd
open Go.RowKit
set_option linter.unusedVariables false
/-- The bytes of a character that begins with this byte; 0: none does. -/
def wd (x : Int) : Int := if x < 128 then 1 else if x < 192 then 0 else if x < 224 then 2 else if x < 240 then 3 else if x < 248 then 4 else 0
theorem bits_all : ∀ k : Fin 256, (Go.bits .and .u8 (k.val : Int) 128 == 0) = decide (k.val < 128) ∧ (Go.bits .and .u8 (k.val : Int) 224 == 192) = decide (192 ≤ k.val ∧ k.val < 224) ∧
    (Go.bits .and .u8 (k.val : Int) 240 == 224) = decide (224 ≤ k.val ∧ k.val < 240) ∧ (Go.bits .and .u8 (k.val : Int) 248 == 240) = decide (240 ≤ k.val ∧ k.val < 248) := by decide +kernel
theorem bits_at (x : Int) (h0 : 0 ≤ x) (h1 : x ≤ 255) : (Go.bits .and .u8 x 128 == 0) = decide (x < 128) ∧ (Go.bits .and .u8 x 224 == 192) = decide (192 ≤ x ∧ x < 224) ∧
    (Go.bits .and .u8 x 240 == 224) = decide (224 ≤ x ∧ x < 240) ∧ (Go.bits .and .u8 x 248 == 240) = decide (240 ≤ x ∧ x < 248) := by
  obtain ⟨n, rfl⟩ := Int.eq_ofNat_of_zero_le h0
  obtain ⟨a, b, c, d⟩ := bits_all ⟨n, by omega⟩
  refine ⟨a.trans ?_, b.trans ?_, c.trans ?_, d.trans ?_⟩
  all_goals (rw [decide_eq_decide]; simp only; omega)
set_option maxHeartbeats 400000 in
theorem wd_any (x : Int) (h0 : 0 ≤ x) (h1 : x ≤ 255) (w : World) : Calls Tryd.prog 131 #[.int .u8 x] w fun e w' => e = .returned (.int .i64 (wd x)) ∧ w = w' := by
  obtain ⟨a, b, c, d⟩ := bits_at x h0 h1
  by_cases c1 : x < 128
  · have r : wd x = 1 := by unfold wd; rw [if_pos c1]
    have a' : (Go.bits .and .u8 x 128 == 0) = true := a.trans (decide_eq_true c1)
    rw [r]; clear a b c d r
    go_enter Tryd.func131, Tryd.ntmps131
    go_wp2_with fail
    go_ret
    exact ⟨rfl, rfl⟩
  have a' : (Go.bits .and .u8 x 128 == 0) = false := a.trans (decide_eq_false c1)
  by_cases c2 : 192 ≤ x ∧ x < 224
  · have r : wd x = 2 := by unfold wd; rw [if_neg c1, if_neg (by omega), if_pos c2.2]
    have b' : (Go.bits .and .u8 x 224 == 192) = true := b.trans (decide_eq_true c2)
    rw [r]; clear a b c d r c2 c1
    go_enter Tryd.func131, Tryd.ntmps131
    go_wp2_with fail
    go_ret
    exact ⟨rfl, rfl⟩
  have b' : (Go.bits .and .u8 x 224 == 192) = false := b.trans (decide_eq_false c2)
  by_cases c3 : 224 ≤ x ∧ x < 240
  · have r : wd x = 3 := by unfold wd; rw [if_neg c1, if_neg (by omega), if_neg (by omega), if_pos c3.2]
    have c' : (Go.bits .and .u8 x 240 == 224) = true := c.trans (decide_eq_true c3)
    rw [r]; clear a b c d r c3 c2 c1
    go_enter Tryd.func131, Tryd.ntmps131
    go_wp2_with fail
    go_ret
    exact ⟨rfl, rfl⟩
  have c' : (Go.bits .and .u8 x 240 == 224) = false := c.trans (decide_eq_false c3)
  by_cases c4 : 240 ≤ x ∧ x < 248
  · have r : wd x = 4 := by unfold wd; rw [if_neg c1, if_neg (by omega), if_neg (by omega), if_neg (by omega), if_pos c4.2]
    have d' : (Go.bits .and .u8 x 248 == 240) = true := d.trans (decide_eq_true c4)
    rw [r]; clear a b c d r c4 c3 c2 c1
    go_enter Tryd.func131, Tryd.ntmps131
    go_wp2_with fail
    go_ret
    exact ⟨rfl, rfl⟩
  have d' : (Go.bits .and .u8 x 248 == 240) = false := d.trans (decide_eq_false c4)
  have r : wd x = 0 := by
    unfold wd
    rw [if_neg c1]
    split
    · rfl
    · rw [if_neg (by omega), if_neg (by omega), if_neg (by omega)]
  rw [r]; clear a b c d r c4 c3 c2 c1
  go_enter Tryd.func131, Tryd.ntmps131
  go_wp2_with fail
  go_ret
  exact ⟨rfl, rfl⟩
end Go.Proofs.YtocbbekciphjgaaDoor.Wd
/- ScA -/
/- A character is passed over (is_blank, is_digit, as_digit, skip): the walks. -/
namespace Go.Proofs.YtocbbekciphjgaaDoor.Sc
open Go.RowKit Go.Proofs.YtocbbekciphjgaaDoor.Rdp Go.Proofs.YtocbbekciphjgaaDoor.Pa
set_option linter.unusedVariables false
set_option linter.unusedSimpArgs false
/-- A cell of a block that is known whole. -/
theorem at_ {w : World} {b : Nat} {t : TypeId} {L : List Value} (h : Bk w b t L) (i : Nat) {v : Value} (hi : L[i]? = some v) : w.cell? ⟨b, i, none⟩ = some v ∧ w.frozen? ⟨b, i, none⟩ = false := by
  obtain ⟨h1, h2⟩ := h.cell i
  exact ⟨h1.trans hi, h2⟩
def isBlank (x : Int) : Bool := x == 32 || x == 9
def isDigit (x : Int) : Bool := decide (48 ≤ x) && decide (x ≤ 57)
set_option maxHeartbeats 1000000 in
theorem blank_any (q i n c : Nat) (x : Int) (w : World) (hi : i < n) (hn : n ≤ 2000) (hx : w.cell? ⟨q, i, none⟩ = some (.int .u8 x)) :
    Calls Tryd.prog 102 #[.slice (some ⟨q, 0, none⟩) n c, .int .i64 i] w fun e w' => e = .returned (.bool (isBlank x)) ∧ w' = w := by
  have h1 : (i : Int) < (n : Int) := by omega
  have h0 : (0 : Int) ≤ (i : Int) := by omega
  have hc : (x == 32) = true ∨ ((x == 32) = false ∧ (x == 9) = true) ∨ ((x == 32) = false ∧ (x == 9) = false) := by cases (x == 32) <;> cases (x == 9) <;> simp
  rcases hc with a | ⟨a, b⟩ | ⟨a, b⟩
  · have r : isBlank x = true := by unfold isBlank; rw [a]; rfl
    rw [r]
    clear r
    go_enter Tryd.func102, Tryd.ntmps102
    go_wp2_with fail
    go_ret
    exact ⟨rfl, rfl⟩
  · have r : isBlank x = true := by unfold isBlank; rw [a, b]; rfl
    rw [r]
    clear r
    go_enter Tryd.func102, Tryd.ntmps102
    go_wp2_with fail
    go_ret
    exact ⟨rfl, rfl⟩
  · have r : isBlank x = false := by unfold isBlank; rw [a, b]; rfl
    rw [r]
    clear r
    go_enter Tryd.func102, Tryd.ntmps102
    go_wp2_with fail
    go_ret
    exact ⟨rfl, rfl⟩
set_option maxHeartbeats 1000000 in
theorem digit_any (q i n c : Nat) (x : Int) (w : World) (hi : i < n) (hn : n ≤ 2000) (hx : w.cell? ⟨q, i, none⟩ = some (.int .u8 x)) :
    Calls Tryd.prog 120 #[.slice (some ⟨q, 0, none⟩) n c, .int .i64 i] w fun e w' => e = .returned (.bool (isDigit x)) ∧ w' = w := by
  have h1 : (i : Int) < (n : Int) := by omega
  have h0 : (0 : Int) ≤ (i : Int) := by omega
  by_cases a : 48 ≤ x
  · have a' : decide (48 ≤ x) = true := by simpa using a
    by_cases b : x ≤ 57
    · have b' : decide (x ≤ 57) = true := by simpa using b
      have r : isDigit x = true := by unfold isDigit; rw [a', b']; rfl
      rw [r]
      clear r
      go_enter Tryd.func120, Tryd.ntmps120
      go_wp2_with fail
      go_ret
      exact ⟨rfl, rfl⟩
    · have b' : decide (x ≤ 57) = false := by simpa using b
      have r : isDigit x = false := by unfold isDigit; rw [a', b']; rfl
      rw [r]
      clear r
      go_enter Tryd.func120, Tryd.ntmps120
      go_wp2_with fail
      go_ret
      exact ⟨rfl, rfl⟩
  · have a' : decide (48 ≤ x) = false := by simpa using a
    have r : isDigit x = false := by unfold isDigit; rw [a']; rfl
    rw [r]
    clear r
    go_enter Tryd.func120, Tryd.ntmps120
    go_wp2_with fail
    go_ret
    exact ⟨rfl, rfl⟩
set_option maxHeartbeats 1000000 in
theorem asdigit_any (q i n c : Nat) (x : Int) (w : World) (hi : i < n) (hn : n ≤ 2000) (h0x : 0 ≤ x) (h1x : x ≤ 255) (hx : w.cell? ⟨q, i, none⟩ = some (.int .u8 x)) :
    Calls Tryd.prog 121 #[.slice (some ⟨q, 0, none⟩) n c, .int .i64 i] w fun e w' => e = .returned (.int .i64 (x - 48)) ∧ w' = w := by
  have h1 : (i : Int) < (n : Int) := by omega
  have h0 : (0 : Int) ≤ (i : Int) := by omega
  go_enter Tryd.func121, Tryd.ntmps121
  go_wp2_with fail
  go_ret
  exact ⟨rfl, rfl⟩
/-- What is left when a character has been passed over. -/
structure Skipped (k : Kn) (p c u bp bl : Nat) (mi mc : Nat) (L : List Value) (w w' : World) : Prop where
  ex : ∃ L', Rdr k p (nx k.T c) u (bp + cw (S k.T c)) bl L' w' ∧ L'[24]? = some (.int .i64 (mi + 1 : Nat)) ∧ L'[26]? = some (.int .i64 (mc + 1 : Nat)) ∧ (∃ z, L'[19]? = some (.int .i64 z)) ∧ (∀ j, j ≠ 17 → j ≠ 18 → j ≠ 19 → j ≠ 24 → j ≠ 26 → L'[j]? = L[j]?)
  kp : Kp [p] w w'
  size : w'.heap.size = w.heap.size
theorem wd_cw {x : Int} (h0 : 0 ≤ x) (h : x < 128 ∨ 194 ≤ x) (h1 : x ≤ 244) : Wd.wd x = (cw x : Nat) := by
  unfold Wd.wd cw
  split
  · rfl
  · split
    · omega
    · split
      · rfl
      · split
        · rfl
        · rw [if_pos (by omega)]; rfl
/-- What a character begins with. -/
theorem first_at {T : List Int} (hG : Rdp.Good T) {c : Nat} (hb : c < T.length → Bd T c) : 0 ≤ S T c ∧ (S T c < 128 ∨ 194 ≤ S T c) ∧ S T c ≤ 244 := by
  by_cases hc : c < T.length
  · have h1 := (hG.chars c (hb hc) hc).1
    unfold okAt Ok1 Ok2 Ok3 Ok4 at h1
    omega
  · rw [S_out (by omega)]; omega
set_option maxHeartbeats 4000000 in
set_option maxRecDepth 100000 in
theorem skip_any (k : Kn) (p c u bp bl mi mc : Nat) (z : Int) (L : List Value) (w : World) (h : Rdr k p c (u + 1) bp bl L w) (h24 : L[24]? = some (.int .i64 (mi : Nat))) (h26 : L[26]? = some (.int .i64 (mc : Nat))) (h19 : L[19]? = some (.int .i64 z)) (hmi : mi ≤ 1000000000000) (hmc : mc ≤ 1000000000000) (hu : u ≤ 1000000) :
    Calls Tryd.prog 103 #[.pointer (some ⟨p, 0, none⟩)] w fun e w' => e = .returned (.tuple #[]) ∧ Skipped k p c u bp bl mi mc L w w' := by
  have hrd := h.ready 1 (by omega)
  have hsm := h.small
  have hpos := cw_pos (S k.T c)
  have hnx : adv k.T c 1 = c + cw (S k.T c) := rfl
  rw [hnx] at hrd
  have hby := h.byte 0 (by omega)
  rw [Nat.add_zero, Nat.add_zero] at hby
  obtain ⟨x0, x1, x2⟩ := first_at h.ok.good h.bd
  have hcw := wd_cw x0 x1 x2
  obtain ⟨c16, f16⟩ := at_ h.pb 16 h.at16
  obtain ⟨c17, f17⟩ := at_ h.pb 17 h.at17
  obtain ⟨c18, f18⟩ := at_ h.pb 18 h.at18
  obtain ⟨c19, f19⟩ := at_ h.pb 19 h19
  obtain ⟨c24, f24⟩ := at_ h.pb 24 h24
  obtain ⟨c26, f26⟩ := at_ h.pb 26 h26
  have H := Lib.hid h
  have hpq : ¬ p = k.q := h.ok.pq
  have hqp : ¬ k.q = p := Ne.symm h.ok.pq
  obtain ⟨x, HX⟩ : ∃ x, Hid (S k.T c = x) := ⟨_, rfl⟩
  obtain ⟨m, HM⟩ : ∃ m, Hid (cw (S k.T c) = m) := ⟨_, rfl⟩
  rw [HM.out] at hcw hrd hpos
  rw [HX.out] at hby x0 x1 x2 hcw
  have HCW := Lib.hid hcw
  have H24 := Lib.hid h24
  have H26 := Lib.hid h26
  have H19 := Lib.hid h19
  have hbl : ∀ N, Calls Tryd.prog 102 #[.slice (some ⟨k.q, 0, none⟩) bl 1536, .int .i64 bp] (w.drewN N) fun e w' => e = .returned (.bool (isBlank x)) ∧ w' = w.drewN N := fun N => blank_any k.q bp bl 1536 x (w.drewN N) (by omega) (by omega) hby
  have HBL := Lib.hid hbl
  have u1 : ((u + 1 : Nat) : Int) = (u : Int) + 1 := by omega
  rw [u1] at c18
  have j1 : (bp : Int) < (bl : Int) := by omega
  have j0 : (0 : Int) ≤ (bp : Int) := by omega
  have j2 : (bl : Int) ≤ 541 := by omega
  clear h hrd hcw h24 h26 h19 hbl u1
  go_enter Tryd.func103, Tryd.ntmps103
  go_wp2_with fail
  go_quiet ((go_at_call 102; exact Calls.quiet_of_same (HBL.out _)))
  clear hnx
  have hsz : Hid (bp + m ≤ bl) := by have := H.out.ready 1 (by omega); rw [show adv k.T c 1 = c + cw (S k.T c) from rfl, HM.out] at this; exact Lib.hid (by omega)
  have hwd : ∀ W, Calls Tryd.prog 131 #[.int .u8 x] W fun e w' => e = .returned (.int .i64 (m : Nat)) ∧ w' = W := fun W => by have := Wd.wd_any x x0 (by omega) W; rw [HCW.out] at this; exact this.mono fun _ _ h => ⟨h.1, h.2.symm⟩
  have HWD := Lib.hid hwd
  clear hwd
  obtain ⟨wa, hwa⟩ : ∃ wa : World, wa = w.drewN nq := ⟨_, rfl⟩
  have HA : Hid (Rdr k p c (u + 1) bp bl L wa) := by rw [hwa]; exact H.out.drewN nq
  have HKA : Hid (Kp [p] w wa ∧ wa.heap.size = w.heap.size) := by rw [hwa]; exact ⟨(Kp.refl _ _).drewN nq, rfl⟩
  rw [← hwa]
  clear hwa c16 c17 c18 c19 c24 c26 f16 f17 f18 f19 f24 f26 hby
  obtain ⟨b, HB⟩ : ∃ b : Bool, Hid (isBlank x = b) := ⟨_, rfl⟩
  rw [HB.out]
  go_upto_if 11 with fail
  go_cut [11] from 2 to 14 (fun _ wx => ∃ L1 z1, Rdr k p c (u + 1) bp bl L1 wx ∧ L1[19]? = some (.int .i64 z1) ∧ (∀ j, j ≠ 19 → L1[j]? = L[j]?) ∧ Kp [p] w wx ∧ wx.heap.size = w.heap.size)
  case first =>
    cases b with
    | true =>
      go_wp2_with fail
      go_meet
      case rel => exact ⟨L, z, HA.out, H19.out, fun _ _ => rfl, HKA.out.1, HKA.out.2⟩
    | false =>
      obtain ⟨c19, f19⟩ := at_ HA.out.pb 19 H19.out
      go_wp2_with fail
      go_meet
      case rel =>
        have hl := HA.out.plen
        exact ⟨L.set 19 (.int .i64 0), 0, HA.out.turn (HA.out.pb.set 19 _) (by simp only [List.length_set]; exact hl) ((Kp.refl _ _).setCell p 19 _ (by simp)) (fun j hj => lset_ne (by omega)), lset_at (by omega), fun j hj => lset_ne hj, HKA.out.1.setCell p 19 _ (by simp), by simp; exact HKA.out.2⟩
  case rest =>
    obtain ⟨L1, z1, hr1, h191, ho1, hk1, hs1⟩ := hcut
    clear HA HKA HBL
    obtain ⟨c16, f16⟩ := at_ hr1.pb 16 hr1.at16
    obtain ⟨c17, f17⟩ := at_ hr1.pb 17 hr1.at17
    obtain ⟨c18, f18⟩ := at_ hr1.pb 18 hr1.at18
    obtain ⟨c24, f24⟩ := at_ hr1.pb 24 ((ho1 24 (by omega)).trans H24.out)
    obtain ⟨c26, f26⟩ := at_ hr1.pb 26 ((ho1 26 (by omega)).trans H26.out)
    have hby := hr1.byte 0 (by have := hsz.out; omega)
    rw [Nat.add_zero, Nat.add_zero, HX.out] at hby
    have u1 : ((u + 1 : Nat) : Int) = (u : Int) + 1 := by omega
    rw [u1] at c18
    have HR1 := Lib.hid hr1
    have H191 := Lib.hid h191
    have HO1 := Lib.hid ho1
    have HK1 := Lib.hid hk1
    have HS1 := Lib.hid hs1
    clear hr1 h191 ho1 hk1 hs1 u1
    go_wp2_with fail
    have hpl := HR1.out.plen
    have hpb5 := ((HR1.out.pb.set 24 (.int .i64 ((mi : Int) + 1))).set 26 (.int .i64 ((mc : Int) + 1))).set 18 (.int .i64 (u : Int))
    have hk5 := (((Kp.refl [p] wc).setCell p 24 (.int .i64 ((mi : Int) + 1)) (by simp)).setCell p 26 (.int .i64 ((mc : Int) + 1)) (by simp)).setCell p 18 (.int .i64 (u : Int)) (by simp)
    have hs5 : (((wc.setCell ⟨p, 24, none⟩ (.int .i64 ((mi : Int) + 1))).setCell ⟨p, 26, none⟩ (.int .i64 ((mc : Int) + 1))).setCell ⟨p, 18, none⟩ (.int .i64 (u : Int))).heap.size = wc.heap.size := by simp
    generalize ((wc.setCell ⟨p, 24, none⟩ (.int .i64 ((mi : Int) + 1))).setCell ⟨p, 26, none⟩ (.int .i64 ((mc : Int) + 1))).setCell ⟨p, 18, none⟩ (.int .i64 (u : Int)) = w5 at *
    have hby5 : w5.cell? ⟨k.q, bp, none⟩ = some (.int .u8 x) := by
      rw [hk5.cell (x := ⟨k.q, bp, none⟩) (World.block_lt_of_cell? wc ⟨k.q, bp, none⟩ hby) (by simp; exact hqp)]
      exact hby
    obtain ⟨d16, e16⟩ := at_ hpb5 16 (by rw [lset_ne (by omega), lset_ne (by omega), lset_ne (by omega)]; exact HR1.out.at16)
    obtain ⟨d17, e17⟩ := at_ hpb5 17 (by rw [lset_ne (by omega), lset_ne (by omega), lset_ne (by omega)]; exact HR1.out.at17)
    have HPB5 := Lib.hid hpb5
    have HK5 := Lib.hid hk5
    have HS5 := Lib.hid hs5
    clear hpb5 hk5 hs5 c16 c17 c18 c24 c26 f16 f17 f18 f24 f26 hby
    refine wp_region_still_tail 18 (by kernel_rfl) (by kernel_rfl) ?_
    simp only [List.take_succ_cons, List.take_zero, List.drop_succ_cons, List.drop_zero]
    iterate 14 still_step
    still_call (HWD.out _)
    repeat still_step
    refine wpStill_nil ?_
    change wpList _ _ _ _ _ w5.drew
    have m1 : (m : Int) ≤ 4 := by omega
    have m0 : (0 : Int) ≤ (m : Int) := by omega
    go_wp2_with fail
    go_end0
    have hz : ∀ w' : World, w'.heap = (w5.setCell ⟨p, 17, none⟩ (.int .i64 ((bp : Int) + (m : Int)))).heap → w'.os = w5.os → w'.tape = w5.tape → w'.output = w5.output → Skipped k p c u bp bl mi mc L w w' := by
      intro w' g1 g2 g3 g4
      have hk6 := HK5.out.setCell p 17 (.int .i64 ((bp : Int) + (m : Int))) (by simp)
      have hk7 : Kp [p] wc w' := ⟨g2.trans hk6.os, g3.trans hk6.tape, g4.trans hk6.output, by rw [g1]; exact hk6.size, fun i h1 h2 => by rw [g1]; exact hk6.block i h1 h2⟩
      have hb6 : Bk w' p 120 ((((L1.set 24 (.int .i64 ((mi : Int) + 1))).set 26 (.int .i64 ((mc : Int) + 1))).set 18 (.int .i64 (u : Int))).set 17 (.int .i64 ((bp : Int) + (m : Int)))) := by unfold Bk; rw [g1]; exact HPB5.out.set 17 (.int .i64 ((bp : Int) + (m : Int)))
      refine ⟨⟨_, HR1.out.step hb6 (by simp only [List.length_set]; exact hpl) hk7 ?_ ?_ ?_, ?_, ?_, ?_, ?_⟩, HK1.out.trans hk7, ?_⟩
      · rw [lset_at (by simp only [List.length_set]; omega), HM.out]; rfl
      · rw [lset_ne (by omega), lset_at (by simp only [List.length_set]; omega)]
      · intro j hj
        rw [lset_ne (by omega), lset_ne (by omega), lset_ne (by omega), lset_ne (by omega)]
      · rw [lset_ne (by omega), lset_ne (by omega), lset_ne (by omega), lset_at (by omega)]; rfl
      · rw [lset_ne (by omega), lset_ne (by omega), lset_at (by simp only [List.length_set]; omega)]; rfl
      · exact ⟨z1, by rw [lset_ne (by omega), lset_ne (by omega), lset_ne (by omega), lset_ne (by omega)]; exact H191.out⟩
      · intro j h1 h2 h3 h4 h5
        rw [lset_ne (by omega), lset_ne (by omega), lset_ne (by omega), lset_ne (by omega)]
        exact HO1.out j h3
      · rw [g1, World.size_setCell, HS5.out]; exact HS1.out
    refine ⟨rfl, hz _ rfl rfl rfl rfl⟩
end Go.Proofs.YtocbbekciphjgaaDoor.Sc
/- AnA -/
/- Whether a byte ends a word (is_blankz), for bytes in ASCII: the walk. -/
namespace Go.Proofs.YtocbbekciphjgaaDoor.Sc
open Go.RowKit Go.Proofs.YtocbbekciphjgaaDoor.Rdp Go.Proofs.YtocbbekciphjgaaDoor.Pa
set_option linter.unusedVariables false
set_option linter.unusedSimpArgs false
def isBlankz (x : Int) : Bool := x == 32 || x == 9 || x == 13 || x == 10 || x == 0
set_option maxHeartbeats 4000000 in
set_option maxRecDepth 100000 in
theorem blankz_any (q i n c : Nat) (x : Int) (w : World) (hi : i < n) (hn : n ≤ 2000) (h0x : 0 ≤ x) (h1x : x < 128) (hx : w.cell? ⟨q, i, none⟩ = some (.int .u8 x)) :
    Calls Tryd.prog 110 #[.slice (some ⟨q, 0, none⟩) n c, .int .i64 i] w fun e w' => e = .returned (.bool (isBlankz x)) ∧ w' = w := by
  have h1 : (i : Int) < (n : Int) := by omega
  have h0 : (0 : Int) ≤ (i : Int) := by omega
  have n1 : (x == 194) = false := by rw [beq_eq_false_iff_ne]; omega
  have n2 : (x == 226) = false := by rw [beq_eq_false_iff_ne]; omega
  obtain ⟨b1, e1⟩ : ∃ b, (x == 32) = b := ⟨_, rfl⟩
  obtain ⟨b2, e2⟩ : ∃ b, (x == 9) = b := ⟨_, rfl⟩
  obtain ⟨b3, e3⟩ : ∃ b, (x == 13) = b := ⟨_, rfl⟩
  obtain ⟨b4, e4⟩ : ∃ b, (x == 10) = b := ⟨_, rfl⟩
  obtain ⟨b5, e5⟩ : ∃ b, (x == 0) = b := ⟨_, rfl⟩
  have hr : isBlankz x = (b1 || b2 || b3 || b4 || b5) := by unfold isBlankz; rw [e1, e2, e3, e4, e5]
  rw [hr]
  clear hr
  cases b1
  · cases b2
    · cases b3
      · cases b4
        · cases b5
          · go_enter Tryd.func110, Tryd.ntmps110; (try simp only [List.append])
            go_wp2_with fail
            go_ret
            exact ⟨rfl, rfl⟩
          · go_enter Tryd.func110, Tryd.ntmps110; (try simp only [List.append])
            go_wp2_with fail
            go_ret
            exact ⟨rfl, rfl⟩
        · go_enter Tryd.func110, Tryd.ntmps110; (try simp only [List.append])
          go_wp2_with fail
          go_ret
          exact ⟨rfl, rfl⟩
      · go_enter Tryd.func110, Tryd.ntmps110; (try simp only [List.append])
        go_wp2_with fail
        go_ret
        exact ⟨rfl, rfl⟩
    · go_enter Tryd.func110, Tryd.ntmps110; (try simp only [List.append])
      go_wp2_with fail
      go_ret
      exact ⟨rfl, rfl⟩
  · go_enter Tryd.func110, Tryd.ntmps110; (try simp only [List.append])
    go_wp2_with fail
    go_ret
    exact ⟨rfl, rfl⟩
end Go.Proofs.YtocbbekciphjgaaDoor.Sc
