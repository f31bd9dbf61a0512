/- The reader of a parser, as it lies between two calls and in the midst of one: definitions, and plain laws. -/
import Derived.Test.YtocbbekciphjgaaDoorPaFb
import Derived.Test.YtocbbekciphjgaaDoorRdp
namespace Go.Proofs.YtocbbekciphjgaaDoor.Pa
open Go.RowKit Go.Proofs.YtocbbekciphjgaaDoor.Rdp
set_option linter.unusedVariables false
set_option linter.unusedSimpArgs false
/-- What a parser reads, and where: its two buffers' blocks, its text, the error of a text's end. -/
structure Kn where
  r : Nat
  q : Nat
  A : Option Addr
  T : List Int
  ci : Nat
  E : Value
/-- The blocks of a parser p. -/
def Kn.bs (k : Kn) (p : Nat) : List Nat := [p, k.r, k.q]
/-- What never turns. -/
structure Kn.Ok (k : Kn) (p : Nat) : Prop where
  pr : p ≠ k.r
  pq : p ≠ k.q
  rq : k.r ≠ k.q
  two : 2 ∉ k.bs p
  src : ∀ b o, k.A = some ⟨b, o, none⟩ → 0 < k.T.length → b ∉ k.bs p
  eof : IsEof k.E
  good : Rdp.Good k.T
  tlen : k.T.length ≤ 2147483647
  tcap : k.T.length ≤ k.ci
/-- A byte. -/
def by8 (x : Int) : Value := .int .u8 x
/-- A parser's reader: c: where the text's next character begins; u: so many characters lie ready; bp, bl: where in the buffer, and how long it is; rl, rpos: the raw buffer's; ip: so many bytes of the text have been taken. -/
structure Lay (k : Kn) (p c u bp bl rl rpos ip : Nat) (eof : Bool) (L RL BL : List Value) (w : World) : Prop where
  pb : Bk w p 120 L
  plen : L.length = 52
  rb : Bk w k.r 5 RL
  rlen : RL.length = 512
  qb : Bk w k.q 5 BL
  qlen : BL.length = 1536
  qall : ∀ i, i < 1536 → ∃ x, BL[i]? = some (by8 x)
  inp : In w k.A k.T
  ev : w.cell? ⟨2, 0, none⟩ = some k.E
  at11 : L[11]? = some rdr
  at13 : L[13]? = some (.slice k.A k.T.length k.ci)
  at14 : L[14]? = some (.int .i64 (ip : Nat))
  at15 : L[15]? = some (.bool eof)
  at17 : L[17]? = some (.int .i64 (bp : Nat))
  at18 : L[18]? = some (.int .i64 (u : Nat))
  at20 : L[20]? = some (.slice (some ⟨k.r, 0, none⟩) rl 512)
  at21 : L[21]? = some (.int .i64 (rpos : Nat))
  at23 : L[23]? = some (.int .i64 (ip - (rl - rpos) : Nat))
  hip : ip ≤ k.T.length
  hrl : rl ≤ 512
  hrpos : rpos ≤ rl
  hraw : rl - rpos ≤ ip
  hbp : bp ≤ bl
  hbl : bl ≤ 541
  buf : ∀ i, i < bl - bp → BL[bp + i]? = some (by8 (S k.T (c + i)))
  raw : ∀ j, j < rl - rpos → RL[rpos + j]? = some (by8 (S k.T (ip - (rl - rpos) + j)))
/-- All that lies ready is of the text. -/
structure ModeA (T : List Int) (c u n rest ip : Nat) : Prop where
  at1 : c + n = ip - rest
  at2 : adv T c u = ip - rest
  bd : Bd T (ip - rest)
/-- The text has been read; noughts lie behind it. -/
structure ModeB (T : List Int) (c u n rest ip : Nat) (eof : Bool) : Prop where
  eof : eof = true
  none : rest = 0
  all : ip = T.length
  out : T.length ≤ c + n
  lo : adv T c u ≤ c + n
  hi : c + n ≤ adv T c u + 8
  cov : T.length ≤ adv T c u
/-- A parser's reader between two calls. st: its encoding is known. -/
structure Rdr (k : Kn) (p c u bp bl : Nat) (L : List Value) (w : World) : Prop where
  ok : k.Ok p
  at16 : L[16]? = some (.slice (some ⟨k.q, 0, none⟩) bl 1536)
  bd : c < k.T.length → Bd k.T c
  ex : ∃ rl rpos ip eof RL BL st, Lay k p c u bp bl rl rpos ip eof L RL BL w ∧ L[22]? = some (.int .i64 (if st then 1 else 0)) ∧
    ((ModeA k.T c u (bl - bp) (rl - rpos) ip ∧ eof = false ∧ (st = false → ip = 0 ∧ rl = 0 ∧ rpos = 0 ∧ bl = 0 ∧ bp = 0 ∧ u = 0 ∧ c = 0)) ∨ (ModeB k.T c u (bl - bp) (rl - rpos) ip eof ∧ st = true))
/-- Where a parser's reader may write. -/
def rdOff (j : Nat) : Prop := j ≠ 14 ∧ j ≠ 15 ∧ j ≠ 16 ∧ j ≠ 17 ∧ j ≠ 18 ∧ j ≠ 20 ∧ j ≠ 21 ∧ j ≠ 22 ∧ j ≠ 23
/-- What lies ready at a place, behind so many bytes. -/
theorem Rdr.byte {k : Kn} {p c u bp bl : Nat} {L : List Value} {w : World} (h : Rdr k p c u bp bl L w) (i : Nat) (hi : bp + i < bl) : w.cell? ⟨k.q, bp + i, none⟩ = some (.int .u8 (S k.T (c + i))) := by
  obtain ⟨rl, rpos, ip, eof, RL, BL, st, hl, _⟩ := h.ex
  rw [(hl.qb.cell (bp + i)).1]
  exact hl.buf i (by omega)
theorem Rdr.pb {k : Kn} {p c u bp bl : Nat} {L : List Value} {w : World} (h : Rdr k p c u bp bl L w) : Bk w p 120 L := by
  obtain ⟨rl, rpos, ip, eof, RL, BL, st, hl, _⟩ := h.ex
  exact hl.pb
theorem Rdr.plen {k : Kn} {p c u bp bl : Nat} {L : List Value} {w : World} (h : Rdr k p c u bp bl L w) : L.length = 52 := by
  obtain ⟨rl, rpos, ip, eof, RL, BL, st, hl, _⟩ := h.ex
  exact hl.plen
theorem Rdr.at17 {k : Kn} {p c u bp bl : Nat} {L : List Value} {w : World} (h : Rdr k p c u bp bl L w) : L[17]? = some (.int .i64 (bp : Nat)) := by
  obtain ⟨rl, rpos, ip, eof, RL, BL, st, hl, _⟩ := h.ex
  exact hl.at17
theorem Rdr.at18 {k : Kn} {p c u bp bl : Nat} {L : List Value} {w : World} (h : Rdr k p c u bp bl L w) : L[18]? = some (.int .i64 (u : Nat)) := by
  obtain ⟨rl, rpos, ip, eof, RL, BL, st, hl, _⟩ := h.ex
  exact hl.at18
theorem Rdr.small {k : Kn} {p c u bp bl : Nat} {L : List Value} {w : World} (h : Rdr k p c u bp bl L w) : bp ≤ bl ∧ bl ≤ 541 := by
  obtain ⟨rl, rpos, ip, eof, RL, BL, st, hl, _⟩ := h.ex
  exact ⟨hl.hbp, hl.hbl⟩
/-- So many characters lie ready, at the least. -/
theorem Rdr.ready {k : Kn} {p c u bp bl : Nat} {L : List Value} {w : World} (h : Rdr k p c u bp bl L w) (n : Nat) (hn : n ≤ u) : adv k.T c n ≤ c + (bl - bp) := by
  obtain ⟨rl, rpos, ip, eof, RL, BL, st, hl, _, hm⟩ := h.ex
  have := adv_mono k.T c hn
  rcases hm with ⟨hA, _⟩ | ⟨hB, _⟩
  · have := hA.at1; have := hA.at2; omega
  · have := hB.lo; omega
/-- Only the parser's own other cells have turned. -/
theorem Rdr.turn {k : Kn} {p c u bp bl : Nat} {L L' : List Value} {w w' : World} (h : Rdr k p c u bp bl L w) (hb : Bk w' p 120 L') (hl : L'.length = 52) (hk : Kp [p] w w') (ho : ∀ j, j = 11 ∨ j = 13 ∨ j = 14 ∨ j = 15 ∨ j = 16 ∨ j = 17 ∨ j = 18 ∨ j = 20 ∨ j = 21 ∨ j = 22 ∨ j = 23 → L'[j]? = L[j]?) : Rdr k p c u bp bl L' w' := by
  obtain ⟨rl, rpos, ip, eof, RL, BL, st, h1, h22, hm⟩ := h.ex
  have ok := h.ok
  have h2 : 2 ∉ [p] := fun hh => ok.two (by unfold Kn.bs; simp at hh ⊢; exact .inl hh)
  refine ⟨ok, (ho 16 (by omega)).trans h.at16, h.bd, rl, rpos, ip, eof, RL, BL, st, ⟨hb, hl, h1.rb.kp hk (by simp; exact Ne.symm ok.pr), h1.rlen, h1.qb.kp hk (by simp; exact Ne.symm ok.pq), h1.qlen, h1.qall, h1.inp.kp hk (fun b o e h0 hh => ok.src b o e h0 (by unfold Kn.bs; simp at hh ⊢; exact .inl hh)), (hk.cell (x := ⟨2, 0, none⟩) (World.block_lt_of_cell? w ⟨2, 0, none⟩ h1.ev) h2).trans h1.ev, ?_, ?_, ?_, ?_, ?_, ?_, ?_, ?_, ?_, h1.hip, h1.hrl, h1.hrpos, h1.hraw, h1.hbp, h1.hbl, h1.buf, h1.raw⟩, (ho 22 (by omega)).trans h22, hm⟩
  · exact (ho 11 (by omega)).trans h1.at11
  · exact (ho 13 (by omega)).trans h1.at13
  · exact (ho 14 (by omega)).trans h1.at14
  · exact (ho 15 (by omega)).trans h1.at15
  · exact (ho 17 (by omega)).trans h1.at17
  · exact (ho 18 (by omega)).trans h1.at18
  · exact (ho 20 (by omega)).trans h1.at20
  · exact (ho 21 (by omega)).trans h1.at21
  · exact (ho 23 (by omega)).trans h1.at23
theorem nx_bd {T : List Int} (hG : Rdp.Good T) {c : Nat} (h : c < T.length → Bd T c) : nx T c < T.length → Bd T (nx T c) := by
  intro hn
  have := nx_lt T c
  exact .next (h (by omega)) (by omega)
/-- One character on. -/
theorem Rdr.step {k : Kn} {p c u bp bl : Nat} {L L' : List Value} {w w' : World} (h : Rdr k p c (u + 1) bp bl L w) (hb : Bk w' p 120 L') (hl : L'.length = 52) (hk : Kp [p] w w')
    (h17 : L'[17]? = some (.int .i64 (bp + cw (S k.T c) : Nat))) (h18 : L'[18]? = some (.int .i64 (u : Nat))) (ho : ∀ j, j = 11 ∨ j = 13 ∨ j = 14 ∨ j = 15 ∨ j = 16 ∨ j = 20 ∨ j = 21 ∨ j = 22 ∨ j = 23 → L'[j]? = L[j]?) : Rdr k p (nx k.T c) u (bp + cw (S k.T c)) bl L' w' := by
  have hrd := h.ready 1 (by omega)
  have hsm := h.small
  obtain ⟨rl, rpos, ip, eof, RL, BL, st, h1, h22, hm⟩ := h.ex
  have ok := h.ok
  have h2 : 2 ∉ [p] := fun hh => ok.two (by unfold Kn.bs; simp at hh ⊢; exact .inl hh)
  have hnx : nx k.T c = c + cw (S k.T c) := rfl
  have hadv : adv k.T c 1 = nx k.T c := rfl
  rw [hadv, hnx] at hrd
  have hbuf : ∀ i, i < bl - (bp + cw (S k.T c)) → BL[bp + cw (S k.T c) + i]? = some (by8 (S k.T (nx k.T c + i))) := fun i hi => by
    have := h1.buf (cw (S k.T c) + i) (by omega)
    rw [hnx, Nat.add_assoc, Nat.add_assoc]
    exact this
  have hpos := cw_pos (S k.T c)
  refine ⟨ok, (ho 16 (by omega)).trans h.at16, nx_bd ok.good h.bd, rl, rpos, ip, eof, RL, BL, st, ⟨hb, hl, h1.rb.kp hk (by simp; exact Ne.symm ok.pr), h1.rlen, h1.qb.kp hk (by simp; exact Ne.symm ok.pq), h1.qlen, h1.qall, h1.inp.kp hk (fun b o e h0 hh => ok.src b o e h0 (by unfold Kn.bs; simp at hh ⊢; exact .inl hh)), (hk.cell (x := ⟨2, 0, none⟩) (World.block_lt_of_cell? w ⟨2, 0, none⟩ h1.ev) h2).trans h1.ev, ?_, ?_, ?_, ?_, h17, h18, ?_, ?_, ?_, h1.hip, h1.hrl, h1.hrpos, h1.hraw, by omega, h1.hbl, hbuf, h1.raw⟩, (ho 22 (by omega)).trans h22, ?_⟩
  · exact (ho 11 (by omega)).trans h1.at11
  · exact (ho 13 (by omega)).trans h1.at13
  · exact (ho 14 (by omega)).trans h1.at14
  · exact (ho 15 (by omega)).trans h1.at15
  · exact (ho 20 (by omega)).trans h1.at20
  · exact (ho 21 (by omega)).trans h1.at21
  · exact (ho 23 (by omega)).trans h1.at23
  · have hadvs : adv k.T c (u + 1) = adv k.T (nx k.T c) u := adv_front k.T u c
    rcases hm with ⟨hA, he, hs⟩ | ⟨hB, hs⟩
    · refine .inl ⟨⟨?_, ?_, hA.bd⟩, he, fun e => by have := hs e; omega⟩
      · have := hA.at1; omega
      · rw [← hadvs]; exact hA.at2
    · refine .inr ⟨⟨hB.eof, hB.none, hB.all, ?_, ?_, ?_, ?_⟩, hs⟩
      · have := hB.out; omega
      · have := hB.lo; rw [hadvs] at this; omega
      · have := hB.hi; rw [hadvs] at this; omega
      · have := hB.cov; rw [hadvs] at this; exact this
/-- What is there at the beginning. -/
theorem good_at {T : List Int} (hG : Rdp.Good T) {c : Nat} (h : c < T.length → Bd T c) (hc : c < T.length) : okAt T c ∧ nx T c ≤ T.length := hG.chars c (h hc) hc
end Go.Proofs.YtocbbekciphjgaaDoor.Pa
