/- The reader of a parser in the midst of a call (yaml_parser_update_buffer): plain laws of the world. -/
import Derived.Test.YtocbbekciphjgaaDoorRdq
namespace Go.Proofs.YtocbbekciphjgaaDoor.Pa
open Go.RowKit Go.Proofs.YtocbbekciphjgaaDoor.Rdp
set_option linter.unusedVariables false
set_option linter.unusedSimpArgs false
/-- In the midst of a call: the buffer is open. -/
structure Inn (k : Kn) (p c u bl rl rpos ip : Nat) (eof : Bool) (L0 L RL BL : List Value) (w0 w : World) : Prop where
  lay : Lay k p c u 0 bl rl rpos ip eof L RL BL w
  at16 : L[16]? = some (.slice (some ⟨k.q, 0, none⟩) 1536 1536)
  at22 : L[22]? = some (.int .i64 1)
  ok : k.Ok p
  old : ∀ j, rdOff j → L[j]? = L0[j]?
  kp : Kp (k.bs p) w0 w
  size : w.heap.size = w0.heap.size
theorem Kn.mp (k : Kn) (p : Nat) : p ∈ k.bs p := by unfold Kn.bs; simp
theorem Kn.mr (k : Kn) (p : Nat) : k.r ∈ k.bs p := by unfold Kn.bs; simp
theorem Kn.mq (k : Kn) (p : Nat) : k.q ∈ k.bs p := by unfold Kn.bs; simp
theorem Kn.Ok.sub {k : Kn} {p : Nat} (h : k.Ok p) {b : Nat} (hb : b ∉ k.bs p) : b ∉ [p, k.r] ∧ b ∉ [p, k.q] ∧ b ∉ [p] ∧ b ∉ [k.q] := by
  unfold Kn.bs at hb
  simp at hb ⊢
  omega
theorem lset_ne {L : List Value} {i j : Nat} {v : Value} (h : j ≠ i) : (L.set i v)[j]? = L[j]? := List.getElem?_set_ne (Ne.symm h)
theorem lset_at {L : List Value} {i : Nat} {v : Value} (h : i < L.length) : (L.set i v)[i]? = some v := List.getElem?_set_self h
/-- A cell of the parser's own is written. -/
theorem In.cell {k : Kn} {p : Nat} {w : World} (h : In w k.A k.T) (ok : k.Ok p) (b i : Nat) (v : Value) (hb : b ∈ k.bs p) : In (w.setCell ⟨b, i, none⟩ v) k.A k.T :=
  h.kp ((Kp.refl (k.bs p) w).setCell b i v hb) ok.src
theorem ev_cell {k : Kn} {p : Nat} {w : World} (h : w.cell? ⟨2, 0, none⟩ = some k.E) (ok : k.Ok p) (b i : Nat) (v : Value) (hb : b ∈ k.bs p) : (w.setCell ⟨b, i, none⟩ v).cell? ⟨2, 0, none⟩ = some k.E := by
  rw [World.cell?_of_block (w := w) (a := ⟨2, 0, none⟩) (Below.heap_setCell w ⟨b, i, none⟩ v 2 (by rintro rfl; exact ok.two hb))]
  exact h
/-- What is left to be shown when a character has been decoded. -/
theorem Inn.ate {k : Kn} {p c u bl rl rpos ip m : Nat} {eof : Bool} {L0 L RL BL L' BL' : List Value} {w0 w w' : World} (h : Inn k p c u bl rl rpos ip eof L0 L RL BL w0 w) (hA : ModeA k.T c u bl (rl - rpos) ip)
    (hm : m ≤ rl - rpos) (hm1 : 1 ≤ m) (hcw : nx k.T (ip - (rl - rpos)) = ip - (rl - rpos) + m) (hb : bl + (rl - rpos) ≤ 540)
    (pb : Bk w' p 120 L') (qb : Bk w' k.q 5 BL') (rb : Bk w' k.r 5 RL) (hin : In w' k.A k.T) (hev : w'.cell? ⟨2, 0, none⟩ = some k.E) (hkp : Kp (k.bs p) w w') (hsz : w'.heap.size = w.heap.size)
    (pl : L'.length = 52) (ql : BL'.length = 1536) (qa : ∀ i, i < 1536 → ∃ x, BL'[i]? = some (by8 x))
    (a18 : L'[18]? = some (.int .i64 (u + 1 : Nat))) (a21 : L'[21]? = some (.int .i64 (rpos + m : Nat))) (a23 : L'[23]? = some (.int .i64 (ip - (rl - rpos) + m : Nat))) (ao : ∀ j, j ≠ 18 → j ≠ 21 → j ≠ 23 → L'[j]? = L[j]?)
    (b0 : ∀ i, i < bl → BL'[i]? = BL[i]?) (b1 : ∀ i, i < m → BL'[bl + i]? = some (by8 (S k.T (ip - (rl - rpos) + i)))) :
    Inn k p c (u + 1) (bl + m) rl (rpos + m) ip eof L0 L' RL BL' w0 w' ∧ ModeA k.T c (u + 1) (bl + m) (rl - (rpos + m)) ip ∧ bl + m + (rl - (rpos + m)) ≤ 540 := by
  have hl := h.lay
  have h1 := hA.at1
  have h2 := hA.at2
  have hip := hl.hip
  have hraw := hl.hraw
  have hrp := hl.hrpos
  refine ⟨⟨⟨pb, pl, rb, hl.rlen, qb, ql, qa, hin, hev, ?_, ?_, ?_, ?_, ?_, a18, ?_, a21, ?_, hip, hl.hrl, by omega, by omega, by omega, by omega, ?_, ?_⟩, ?_, ?_, h.ok, ?_, h.kp.trans hkp, hsz.trans h.size⟩, ⟨?_, ?_, ?_⟩, by omega⟩
  · exact (ao 11 (by omega) (by omega) (by omega)).trans hl.at11
  · exact (ao 13 (by omega) (by omega) (by omega)).trans hl.at13
  · exact (ao 14 (by omega) (by omega) (by omega)).trans hl.at14
  · exact (ao 15 (by omega) (by omega) (by omega)).trans hl.at15
  · exact (ao 17 (by omega) (by omega) (by omega)).trans hl.at17
  · exact (ao 20 (by omega) (by omega) (by omega)).trans hl.at20
  · rw [a23]; congr 2; congr 1; omega
  · intro i hi
    rw [Nat.zero_add]
    by_cases hlt : i < bl
    · rw [b0 i hlt]
      have := hl.buf i (by omega)
      rw [Nat.zero_add] at this
      exact this
    · obtain ⟨j, rfl⟩ : ∃ j, i = bl + j := ⟨i - bl, by omega⟩
      rw [b1 j (by omega)]
      congr 3
      omega
  · intro j hj
    have := hl.raw (m + j) (by omega)
    rw [show rpos + m + j = rpos + (m + j) by omega, this]
    congr 3
    omega
  · exact (ao 16 (by omega) (by omega) (by omega)).trans h.at16
  · exact (ao 22 (by omega) (by omega) (by omega)).trans h.at22
  · intro j hj
    unfold rdOff at hj
    rw [ao j (by omega) (by omega) (by omega)]
    exact h.old j (by unfold rdOff; omega)
  · omega
  · have : adv k.T c (u + 1) = nx k.T (adv k.T c u) := rfl
    rw [this, h2, hcw]
    omega
  · have : ip - (rl - (rpos + m)) = nx k.T (ip - (rl - rpos)) := by rw [hcw]; omega
    rw [this]
    exact .next hA.bd (by omega)
theorem Inn.eat1 {k : Kn} {p c u bl rl rpos ip : Nat} {eof : Bool} {L0 L RL BL : List Value} {w0 w : World} (h : Inn k p c u bl rl rpos ip eof L0 L RL BL w0 w) (hA : ModeA k.T c u bl (rl - rpos) ip)
    (hm : 1 ≤ rl - rpos) (hcw : nx k.T (ip - (rl - rpos)) = ip - (rl - rpos) + 1) (hb : bl + (rl - rpos) ≤ 540) {v18 v21 v23 : Int} {x0 : Int} (e18 : v18 = (u + 1 : Nat)) (e21 : v21 = (rpos + 1 : Nat)) (e23 : v23 = (ip - (rl - rpos) + 1 : Nat)) (hx0 : x0 = S k.T (ip - (rl - rpos))) :
    Inn k p c (u + 1) (bl + 1) rl (rpos + 1) ip eof L0 (((L.set 21 (.int .i64 v21)).set 23 (.int .i64 v23)).set 18 (.int .i64 v18)) RL (BL.set (bl) (by8 x0)) w0 ((((w.setCell ⟨p, 21, none⟩ (.int .i64 v21)).setCell ⟨p, 23, none⟩ (.int .i64 v23)).setCell ⟨k.q, bl, none⟩ (.int .u8 x0)).setCell ⟨p, 18, none⟩ (.int .i64 v18)) ∧ ModeA k.T c (u + 1) (bl + 1) (rl - (rpos + 1)) ip ∧ bl + 1 + (rl - (rpos + 1)) ≤ 540 := by
  have hl := h.lay
  have ok := h.ok
  have hq := hl.hbl
  have hql := hl.qlen
  have hpl := hl.plen
  have hkp : Kp (k.bs p) w ((((w.setCell ⟨p, 21, none⟩ (.int .i64 v21)).setCell ⟨p, 23, none⟩ (.int .i64 v23)).setCell ⟨k.q, bl, none⟩ (.int .u8 x0)).setCell ⟨p, 18, none⟩ (.int .i64 v18)) := ((((Kp.refl (k.bs p) w).setCell p 21 _ (k.mp p)).setCell p 23 _ (k.mp p)).setCell k.q (bl) _ (k.mq p)).setCell p 18 _ (k.mp p)
  refine h.ate (m := 1) hA hm (by omega) hcw hb ((((hl.pb.set 21 _).set 23 _).other k.q (bl) _ ok.pq).set 18 _) ((((hl.qb.other p 21 _ (Ne.symm ok.pq)).other p 23 _ (Ne.symm ok.pq)).set (bl) _).other p 18 _ (Ne.symm ok.pq)) ((((hl.rb.other p 21 _ (Ne.symm ok.pr)).other p 23 _ (Ne.symm ok.pr)).other k.q (bl) _ ok.rq).other p 18 _ (Ne.symm ok.pr)) ((((hl.inp.cell ok p 21 _ (k.mp p)).cell ok p 23 _ (k.mp p)).cell ok k.q (bl) _ (k.mq p)).cell ok p 18 _ (k.mp p)) (ev_cell (ev_cell (ev_cell (ev_cell hl.ev ok p 21 _ (k.mp p)) ok p 23 _ (k.mp p)) ok k.q (bl) _ (k.mq p)) ok p 18 _ (k.mp p)) hkp (by simp) (by simp; exact hpl) (by simp; exact hql) ?_ ?_ ?_ ?_ ?_ ?_ ?_
  · intro i hi
    by_cases e0 : i = bl
    · subst e0; exact ⟨_, lset_at (by first | omega | (simp only [List.length_set]; omega))⟩
    rw [lset_ne e0]
    exact hl.qall i hi
  · rw [lset_at (by simp only [List.length_set]; omega), e18]
  · rw [lset_ne (by omega), lset_ne (by omega), lset_at (by omega), e21]
  · rw [lset_ne (by omega), lset_at (by simp only [List.length_set]; omega), e23]
  · intro j h1 h2 h3
    rw [lset_ne h1, lset_ne h3, lset_ne h2]
  · intro i hi
    rw [lset_ne (by omega)]
  · intro i hi
    have hc : i = 0 := by omega
    subst hc
    simp only [Nat.add_zero]
    rw [lset_at (by omega), hx0]
theorem Inn.eat2 {k : Kn} {p c u bl rl rpos ip : Nat} {eof : Bool} {L0 L RL BL : List Value} {w0 w : World} (h : Inn k p c u bl rl rpos ip eof L0 L RL BL w0 w) (hA : ModeA k.T c u bl (rl - rpos) ip)
    (hm : 2 ≤ rl - rpos) (hcw : nx k.T (ip - (rl - rpos)) = ip - (rl - rpos) + 2) (hb : bl + (rl - rpos) ≤ 540) {v18 v21 v23 : Int} {x0 x1 : Int} (e18 : v18 = (u + 1 : Nat)) (e21 : v21 = (rpos + 2 : Nat)) (e23 : v23 = (ip - (rl - rpos) + 2 : Nat)) (hx0 : x0 = S k.T (ip - (rl - rpos))) (hx1 : x1 = S k.T (ip - (rl - rpos) + 1)) :
    Inn k p c (u + 1) (bl + 2) rl (rpos + 2) ip eof L0 (((L.set 21 (.int .i64 v21)).set 23 (.int .i64 v23)).set 18 (.int .i64 v18)) RL ((BL.set (bl) (by8 x0)).set (bl + 1) (by8 x1)) w0 (((((w.setCell ⟨p, 21, none⟩ (.int .i64 v21)).setCell ⟨p, 23, none⟩ (.int .i64 v23)).setCell ⟨k.q, bl, none⟩ (.int .u8 x0)).setCell ⟨k.q, bl + 1, none⟩ (.int .u8 x1)).setCell ⟨p, 18, none⟩ (.int .i64 v18)) ∧ ModeA k.T c (u + 1) (bl + 2) (rl - (rpos + 2)) ip ∧ bl + 2 + (rl - (rpos + 2)) ≤ 540 := by
  have hl := h.lay
  have ok := h.ok
  have hq := hl.hbl
  have hql := hl.qlen
  have hpl := hl.plen
  have hkp : Kp (k.bs p) w (((((w.setCell ⟨p, 21, none⟩ (.int .i64 v21)).setCell ⟨p, 23, none⟩ (.int .i64 v23)).setCell ⟨k.q, bl, none⟩ (.int .u8 x0)).setCell ⟨k.q, bl + 1, none⟩ (.int .u8 x1)).setCell ⟨p, 18, none⟩ (.int .i64 v18)) := (((((Kp.refl (k.bs p) w).setCell p 21 _ (k.mp p)).setCell p 23 _ (k.mp p)).setCell k.q (bl) _ (k.mq p)).setCell k.q (bl + 1) _ (k.mq p)).setCell p 18 _ (k.mp p)
  refine h.ate (m := 2) hA hm (by omega) hcw hb (((((hl.pb.set 21 _).set 23 _).other k.q (bl) _ ok.pq).other k.q (bl + 1) _ ok.pq).set 18 _) (((((hl.qb.other p 21 _ (Ne.symm ok.pq)).other p 23 _ (Ne.symm ok.pq)).set (bl) _).set (bl + 1) _).other p 18 _ (Ne.symm ok.pq)) (((((hl.rb.other p 21 _ (Ne.symm ok.pr)).other p 23 _ (Ne.symm ok.pr)).other k.q (bl) _ ok.rq).other k.q (bl + 1) _ ok.rq).other p 18 _ (Ne.symm ok.pr)) (((((hl.inp.cell ok p 21 _ (k.mp p)).cell ok p 23 _ (k.mp p)).cell ok k.q (bl) _ (k.mq p)).cell ok k.q (bl + 1) _ (k.mq p)).cell ok p 18 _ (k.mp p)) (ev_cell (ev_cell (ev_cell (ev_cell (ev_cell hl.ev ok p 21 _ (k.mp p)) ok p 23 _ (k.mp p)) ok k.q (bl) _ (k.mq p)) ok k.q (bl + 1) _ (k.mq p)) ok p 18 _ (k.mp p)) hkp (by simp) (by simp; exact hpl) (by simp; exact hql) ?_ ?_ ?_ ?_ ?_ ?_ ?_
  · intro i hi
    by_cases e1 : i = bl + 1
    · subst e1; exact ⟨_, lset_at (by first | omega | (simp only [List.length_set]; omega))⟩
    rw [lset_ne e1]
    by_cases e0 : i = bl
    · subst e0; exact ⟨_, lset_at (by first | omega | (simp only [List.length_set]; omega))⟩
    rw [lset_ne e0]
    exact hl.qall i hi
  · rw [lset_at (by simp only [List.length_set]; omega), e18]
  · rw [lset_ne (by omega), lset_ne (by omega), lset_at (by omega), e21]
  · rw [lset_ne (by omega), lset_at (by simp only [List.length_set]; omega), e23]
  · intro j h1 h2 h3
    rw [lset_ne h1, lset_ne h3, lset_ne h2]
  · intro i hi
    rw [lset_ne (by omega), lset_ne (by omega)]
  · intro i hi
    have hc : i = 0 ∨ i = 1 := by omega
    rcases hc with rfl | rfl
    · simp only [Nat.add_zero]
      rw [lset_ne (by omega), lset_at (by omega), hx0]
    · rw [lset_at (by simp only [List.length_set]; omega), hx1]
theorem Inn.eat3 {k : Kn} {p c u bl rl rpos ip : Nat} {eof : Bool} {L0 L RL BL : List Value} {w0 w : World} (h : Inn k p c u bl rl rpos ip eof L0 L RL BL w0 w) (hA : ModeA k.T c u bl (rl - rpos) ip)
    (hm : 3 ≤ rl - rpos) (hcw : nx k.T (ip - (rl - rpos)) = ip - (rl - rpos) + 3) (hb : bl + (rl - rpos) ≤ 540) {v18 v21 v23 : Int} {x0 x1 x2 : Int} (e18 : v18 = (u + 1 : Nat)) (e21 : v21 = (rpos + 3 : Nat)) (e23 : v23 = (ip - (rl - rpos) + 3 : Nat)) (hx0 : x0 = S k.T (ip - (rl - rpos))) (hx1 : x1 = S k.T (ip - (rl - rpos) + 1)) (hx2 : x2 = S k.T (ip - (rl - rpos) + 2)) :
    Inn k p c (u + 1) (bl + 3) rl (rpos + 3) ip eof L0 (((L.set 21 (.int .i64 v21)).set 23 (.int .i64 v23)).set 18 (.int .i64 v18)) RL (((BL.set (bl) (by8 x0)).set (bl + 1) (by8 x1)).set (bl + 2) (by8 x2)) w0 ((((((w.setCell ⟨p, 21, none⟩ (.int .i64 v21)).setCell ⟨p, 23, none⟩ (.int .i64 v23)).setCell ⟨k.q, bl, none⟩ (.int .u8 x0)).setCell ⟨k.q, bl + 1, none⟩ (.int .u8 x1)).setCell ⟨k.q, bl + 2, none⟩ (.int .u8 x2)).setCell ⟨p, 18, none⟩ (.int .i64 v18)) ∧ ModeA k.T c (u + 1) (bl + 3) (rl - (rpos + 3)) ip ∧ bl + 3 + (rl - (rpos + 3)) ≤ 540 := by
  have hl := h.lay
  have ok := h.ok
  have hq := hl.hbl
  have hql := hl.qlen
  have hpl := hl.plen
  have hkp : Kp (k.bs p) w ((((((w.setCell ⟨p, 21, none⟩ (.int .i64 v21)).setCell ⟨p, 23, none⟩ (.int .i64 v23)).setCell ⟨k.q, bl, none⟩ (.int .u8 x0)).setCell ⟨k.q, bl + 1, none⟩ (.int .u8 x1)).setCell ⟨k.q, bl + 2, none⟩ (.int .u8 x2)).setCell ⟨p, 18, none⟩ (.int .i64 v18)) := ((((((Kp.refl (k.bs p) w).setCell p 21 _ (k.mp p)).setCell p 23 _ (k.mp p)).setCell k.q (bl) _ (k.mq p)).setCell k.q (bl + 1) _ (k.mq p)).setCell k.q (bl + 2) _ (k.mq p)).setCell p 18 _ (k.mp p)
  refine h.ate (m := 3) hA hm (by omega) hcw hb ((((((hl.pb.set 21 _).set 23 _).other k.q (bl) _ ok.pq).other k.q (bl + 1) _ ok.pq).other k.q (bl + 2) _ ok.pq).set 18 _) ((((((hl.qb.other p 21 _ (Ne.symm ok.pq)).other p 23 _ (Ne.symm ok.pq)).set (bl) _).set (bl + 1) _).set (bl + 2) _).other p 18 _ (Ne.symm ok.pq)) ((((((hl.rb.other p 21 _ (Ne.symm ok.pr)).other p 23 _ (Ne.symm ok.pr)).other k.q (bl) _ ok.rq).other k.q (bl + 1) _ ok.rq).other k.q (bl + 2) _ ok.rq).other p 18 _ (Ne.symm ok.pr)) ((((((hl.inp.cell ok p 21 _ (k.mp p)).cell ok p 23 _ (k.mp p)).cell ok k.q (bl) _ (k.mq p)).cell ok k.q (bl + 1) _ (k.mq p)).cell ok k.q (bl + 2) _ (k.mq p)).cell ok p 18 _ (k.mp p)) (ev_cell (ev_cell (ev_cell (ev_cell (ev_cell (ev_cell hl.ev ok p 21 _ (k.mp p)) ok p 23 _ (k.mp p)) ok k.q (bl) _ (k.mq p)) ok k.q (bl + 1) _ (k.mq p)) ok k.q (bl + 2) _ (k.mq p)) ok p 18 _ (k.mp p)) hkp (by simp) (by simp; exact hpl) (by simp; exact hql) ?_ ?_ ?_ ?_ ?_ ?_ ?_
  · intro i hi
    by_cases e2 : i = bl + 2
    · subst e2; exact ⟨_, lset_at (by first | omega | (simp only [List.length_set]; omega))⟩
    rw [lset_ne e2]
    by_cases e1 : i = bl + 1
    · subst e1; exact ⟨_, lset_at (by first | omega | (simp only [List.length_set]; omega))⟩
    rw [lset_ne e1]
    by_cases e0 : i = bl
    · subst e0; exact ⟨_, lset_at (by first | omega | (simp only [List.length_set]; omega))⟩
    rw [lset_ne e0]
    exact hl.qall i hi
  · rw [lset_at (by simp only [List.length_set]; omega), e18]
  · rw [lset_ne (by omega), lset_ne (by omega), lset_at (by omega), e21]
  · rw [lset_ne (by omega), lset_at (by simp only [List.length_set]; omega), e23]
  · intro j h1 h2 h3
    rw [lset_ne h1, lset_ne h3, lset_ne h2]
  · intro i hi
    rw [lset_ne (by omega), lset_ne (by omega), lset_ne (by omega)]
  · intro i hi
    have hc : i = 0 ∨ i = 1 ∨ i = 2 := by omega
    rcases hc with rfl | rfl | rfl
    · simp only [Nat.add_zero]
      rw [lset_ne (by omega), lset_ne (by omega), lset_at (by omega), hx0]
    · rw [lset_ne (by omega), lset_at (by simp only [List.length_set]; omega), hx1]
    · rw [lset_at (by simp only [List.length_set]; omega), hx2]
theorem Inn.eat4 {k : Kn} {p c u bl rl rpos ip : Nat} {eof : Bool} {L0 L RL BL : List Value} {w0 w : World} (h : Inn k p c u bl rl rpos ip eof L0 L RL BL w0 w) (hA : ModeA k.T c u bl (rl - rpos) ip)
    (hm : 4 ≤ rl - rpos) (hcw : nx k.T (ip - (rl - rpos)) = ip - (rl - rpos) + 4) (hb : bl + (rl - rpos) ≤ 540) {v18 v21 v23 : Int} {x0 x1 x2 x3 : Int} (e18 : v18 = (u + 1 : Nat)) (e21 : v21 = (rpos + 4 : Nat)) (e23 : v23 = (ip - (rl - rpos) + 4 : Nat)) (hx0 : x0 = S k.T (ip - (rl - rpos))) (hx1 : x1 = S k.T (ip - (rl - rpos) + 1)) (hx2 : x2 = S k.T (ip - (rl - rpos) + 2)) (hx3 : x3 = S k.T (ip - (rl - rpos) + 3)) :
    Inn k p c (u + 1) (bl + 4) rl (rpos + 4) ip eof L0 (((L.set 21 (.int .i64 v21)).set 23 (.int .i64 v23)).set 18 (.int .i64 v18)) RL ((((BL.set (bl) (by8 x0)).set (bl + 1) (by8 x1)).set (bl + 2) (by8 x2)).set (bl + 3) (by8 x3)) w0 (((((((w.setCell ⟨p, 21, none⟩ (.int .i64 v21)).setCell ⟨p, 23, none⟩ (.int .i64 v23)).setCell ⟨k.q, bl, none⟩ (.int .u8 x0)).setCell ⟨k.q, bl + 1, none⟩ (.int .u8 x1)).setCell ⟨k.q, bl + 2, none⟩ (.int .u8 x2)).setCell ⟨k.q, bl + 3, none⟩ (.int .u8 x3)).setCell ⟨p, 18, none⟩ (.int .i64 v18)) ∧ ModeA k.T c (u + 1) (bl + 4) (rl - (rpos + 4)) ip ∧ bl + 4 + (rl - (rpos + 4)) ≤ 540 := by
  have hl := h.lay
  have ok := h.ok
  have hq := hl.hbl
  have hql := hl.qlen
  have hpl := hl.plen
  have hkp : Kp (k.bs p) w (((((((w.setCell ⟨p, 21, none⟩ (.int .i64 v21)).setCell ⟨p, 23, none⟩ (.int .i64 v23)).setCell ⟨k.q, bl, none⟩ (.int .u8 x0)).setCell ⟨k.q, bl + 1, none⟩ (.int .u8 x1)).setCell ⟨k.q, bl + 2, none⟩ (.int .u8 x2)).setCell ⟨k.q, bl + 3, none⟩ (.int .u8 x3)).setCell ⟨p, 18, none⟩ (.int .i64 v18)) := (((((((Kp.refl (k.bs p) w).setCell p 21 _ (k.mp p)).setCell p 23 _ (k.mp p)).setCell k.q (bl) _ (k.mq p)).setCell k.q (bl + 1) _ (k.mq p)).setCell k.q (bl + 2) _ (k.mq p)).setCell k.q (bl + 3) _ (k.mq p)).setCell p 18 _ (k.mp p)
  refine h.ate (m := 4) hA hm (by omega) hcw hb (((((((hl.pb.set 21 _).set 23 _).other k.q (bl) _ ok.pq).other k.q (bl + 1) _ ok.pq).other k.q (bl + 2) _ ok.pq).other k.q (bl + 3) _ ok.pq).set 18 _) (((((((hl.qb.other p 21 _ (Ne.symm ok.pq)).other p 23 _ (Ne.symm ok.pq)).set (bl) _).set (bl + 1) _).set (bl + 2) _).set (bl + 3) _).other p 18 _ (Ne.symm ok.pq)) (((((((hl.rb.other p 21 _ (Ne.symm ok.pr)).other p 23 _ (Ne.symm ok.pr)).other k.q (bl) _ ok.rq).other k.q (bl + 1) _ ok.rq).other k.q (bl + 2) _ ok.rq).other k.q (bl + 3) _ ok.rq).other p 18 _ (Ne.symm ok.pr)) (((((((hl.inp.cell ok p 21 _ (k.mp p)).cell ok p 23 _ (k.mp p)).cell ok k.q (bl) _ (k.mq p)).cell ok k.q (bl + 1) _ (k.mq p)).cell ok k.q (bl + 2) _ (k.mq p)).cell ok k.q (bl + 3) _ (k.mq p)).cell ok p 18 _ (k.mp p)) (ev_cell (ev_cell (ev_cell (ev_cell (ev_cell (ev_cell (ev_cell hl.ev ok p 21 _ (k.mp p)) ok p 23 _ (k.mp p)) ok k.q (bl) _ (k.mq p)) ok k.q (bl + 1) _ (k.mq p)) ok k.q (bl + 2) _ (k.mq p)) ok k.q (bl + 3) _ (k.mq p)) ok p 18 _ (k.mp p)) hkp (by simp) (by simp; exact hpl) (by simp; exact hql) ?_ ?_ ?_ ?_ ?_ ?_ ?_
  · intro i hi
    by_cases e3 : i = bl + 3
    · subst e3; exact ⟨_, lset_at (by first | omega | (simp only [List.length_set]; omega))⟩
    rw [lset_ne e3]
    by_cases e2 : i = bl + 2
    · subst e2; exact ⟨_, lset_at (by first | omega | (simp only [List.length_set]; omega))⟩
    rw [lset_ne e2]
    by_cases e1 : i = bl + 1
    · subst e1; exact ⟨_, lset_at (by first | omega | (simp only [List.length_set]; omega))⟩
    rw [lset_ne e1]
    by_cases e0 : i = bl
    · subst e0; exact ⟨_, lset_at (by first | omega | (simp only [List.length_set]; omega))⟩
    rw [lset_ne e0]
    exact hl.qall i hi
  · rw [lset_at (by simp only [List.length_set]; omega), e18]
  · rw [lset_ne (by omega), lset_ne (by omega), lset_at (by omega), e21]
  · rw [lset_ne (by omega), lset_at (by simp only [List.length_set]; omega), e23]
  · intro j h1 h2 h3
    rw [lset_ne h1, lset_ne h3, lset_ne h2]
  · intro i hi
    rw [lset_ne (by omega), lset_ne (by omega), lset_ne (by omega), lset_ne (by omega)]
  · intro i hi
    have hc : i = 0 ∨ i = 1 ∨ i = 2 ∨ i = 3 := by omega
    rcases hc with rfl | rfl | rfl | rfl
    · simp only [Nat.add_zero]
      rw [lset_ne (by omega), lset_ne (by omega), lset_ne (by omega), lset_at (by omega), hx0]
    · rw [lset_ne (by omega), lset_ne (by omega), lset_at (by simp only [List.length_set]; omega), hx1]
    · rw [lset_ne (by omega), lset_at (by simp only [List.length_set]; omega), hx2]
    · rw [lset_at (by simp only [List.length_set]; omega), hx3]
end Go.Proofs.YtocbbekciphjgaaDoor.Pa
