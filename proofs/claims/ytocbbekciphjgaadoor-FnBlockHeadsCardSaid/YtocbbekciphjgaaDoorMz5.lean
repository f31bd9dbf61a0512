/- Rdp, Rdq, PaI: parts of the proof, one behind another. -/
import Derived.Test.YtocbbekciphjgaaDoorMz4
/- Rdp -/
/- Texts in UTF-8, read character by character: plain laws, with no program in sight. -/
namespace Go.Proofs.YtocbbekciphjgaaDoor.Rdp
/-- The text's bytes, noughts behind it. -/
def S (T : List Int) (i : Nat) : Int := T.getD i 0
/-- How many bytes a character has, by its first one. -/
def cw (b : Int) : Nat := if b < 128 then 1 else if b < 224 then 2 else if b < 240 then 3 else 4
/-- Where the next character begins. -/
def nx (T : List Int) (c : Nat) : Nat := c + cw (S T c)
/-- Where one is n characters on. -/
def adv (T : List Int) (c : Nat) : Nat → Nat
  | 0 => c
  | n + 1 => nx T (adv T c n)
/-- A character begins here. -/
inductive Bd (T : List Int) : Nat → Prop
  | zero : Bd T 0
  | next {c : Nat} : Bd T c → c < T.length → Bd T (nx T c)
def Ok1 (a : Int) : Prop := a = 9 ∨ a = 10 ∨ a = 13 ∨ (32 ≤ a ∧ a ≤ 126)
def Ok2 (a b : Int) : Prop := 194 ≤ a ∧ a ≤ 223 ∧ 128 ≤ b ∧ b ≤ 191 ∧ (a = 194 → b = 133 ∨ 160 ≤ b)
def Ok3 (a b c : Int) : Prop := 224 ≤ a ∧ a ≤ 239 ∧ 128 ≤ b ∧ b ≤ 191 ∧ 128 ≤ c ∧ c ≤ 191 ∧ (a = 224 → 160 ≤ b) ∧ (a = 237 → b ≤ 159) ∧ (a = 239 → b = 191 → c ≤ 189)
def Ok4 (a b c d : Int) : Prop := 240 ≤ a ∧ a ≤ 244 ∧ 128 ≤ b ∧ b ≤ 191 ∧ 128 ≤ c ∧ c ≤ 191 ∧ 128 ≤ d ∧ d ≤ 191 ∧ (a = 240 → 144 ≤ b) ∧ (a = 244 → b ≤ 143)
/-- A character that may stand in a text. -/
def okAt (T : List Int) (c : Nat) : Prop := Ok1 (S T c) ∨ Ok2 (S T c) (S T (c + 1)) ∨ Ok3 (S T c) (S T (c + 1)) (S T (c + 2)) ∨ Ok4 (S T c) (S T (c + 1)) (S T (c + 2)) (S T (c + 3))
/-- A text of such characters, without a byte order mark. -/
structure Good (T : List Int) : Prop where
  chars : ∀ c, Bd T c → c < T.length → okAt T c ∧ nx T c ≤ T.length
  bytes : ∀ i, 0 ≤ S T i ∧ S T i < 256
  mark : ¬ (S T 0 = 239 ∧ S T 1 = 187 ∧ S T 2 = 191)
theorem S_out {T : List Int} {i : Nat} (h : T.length ≤ i) : S T i = 0 := by
  unfold S
  rw [List.getD_eq_getElem?_getD, List.getElem?_eq_none h]
  rfl
theorem cw_pos (b : Int) : 1 ≤ cw b ∧ cw b ≤ 4 := by
  unfold cw
  split
  · omega
  · split
    · omega
    · split <;> omega
theorem nx_lt (T : List Int) (c : Nat) : c < nx T c ∧ nx T c ≤ c + 4 := by
  have := cw_pos (S T c)
  unfold nx
  omega
theorem nx_out {T : List Int} {c : Nat} (h : T.length ≤ c) : nx T c = c + 1 := by
  unfold nx
  rw [S_out h]
  rfl
theorem adv_front (T : List Int) : ∀ (n c : Nat), adv T c (n + 1) = adv T (nx T c) n := by
  intro n
  induction n with
  | zero => intro c; rfl
  | succ n ih =>
    intro c
    show nx T (adv T c (n + 1)) = nx T (adv T (nx T c) n)
    rw [ih]
theorem adv_add (T : List Int) (c a : Nat) : ∀ b, adv T c (a + b) = adv T (adv T c a) b := by
  intro b
  induction b with
  | zero => rfl
  | succ b ih =>
    show nx T (adv T c (a + b)) = nx T (adv T (adv T c a) b)
    rw [ih]
theorem adv_le (T : List Int) (c : Nat) : ∀ n, c + n ≤ adv T c n ∧ adv T c n ≤ c + 4 * n := by
  intro n
  induction n with
  | zero => exact ⟨Nat.le_refl _, Nat.le_refl _⟩
  | succ n ih =>
    have := nx_lt T (adv T c n)
    show _ ≤ nx T (adv T c n) ∧ nx T (adv T c n) ≤ _
    omega
theorem adv_mono (T : List Int) (c : Nat) {a b : Nat} (h : a ≤ b) : adv T c a ≤ adv T c b := by
  obtain ⟨d, rfl⟩ : ∃ d, b = a + d := ⟨b - a, by omega⟩
  rw [adv_add]
  have := (adv_le T (adv T c a) d).1
  omega
theorem adv_out {T : List Int} {c : Nat} (h : T.length ≤ c) : ∀ n, adv T c n = c + n := by
  intro n
  induction n with
  | zero => rfl
  | succ n ih =>
    show nx T (adv T c n) = _
    rw [nx_out (by omega), ih]
    omega
theorem Bd.adv {T : List Int} {c : Nat} (h : Bd T c) : ∀ n, Rdp.adv T c n ≤ T.length → Bd T (Rdp.adv T c n) := by
  intro n
  induction n with
  | zero => intro _; exact h
  | succ n ih =>
    intro hn
    have h1 := nx_lt T (Rdp.adv T c n)
    have h2 : nx T (Rdp.adv T c n) ≤ T.length := hn
    exact .next (ih (by omega)) (by omega)
theorem Bd.le {T : List Int} (hG : Good T) {c : Nat} (h : Bd T c) : c ≤ T.length := by
  cases h with
  | zero => omega
  | next h1 h2 => exact (hG.chars _ h1 h2).2
/-- A text in ASCII is one of such characters. -/
theorem good_ascii {T : List Int} (h : ∀ i, i < T.length → Ok1 (S T i)) : Good T := by
  have hb : ∀ i, 0 ≤ S T i ∧ S T i < 128 := by
    intro i
    by_cases hi : i < T.length
    · have := h i hi
      unfold Ok1 at this
      omega
    · rw [S_out (by omega)]
      omega
  refine ⟨fun c _ hc => ⟨.inl (h c hc), ?_⟩, fun i => ?_, fun hh => ?_⟩
  · unfold nx cw
    rw [if_pos (hb c).2]
    omega
  · have := hb i
    omega
  · have := hb 0
    omega
theorem ok_cw {T : List Int} {c : Nat} (h : okAt T c) : (Ok1 (S T c) ∧ nx T c = c + 1) ∨ (Ok2 (S T c) (S T (c + 1)) ∧ nx T c = c + 2) ∨ (Ok3 (S T c) (S T (c + 1)) (S T (c + 2)) ∧ nx T c = c + 3) ∨ (Ok4 (S T c) (S T (c + 1)) (S T (c + 2)) (S T (c + 3)) ∧ nx T c = c + 4) := by
  unfold nx cw
  rcases h with h | h | h | h
  · refine .inl ⟨h, ?_⟩
    unfold Ok1 at h
    rw [if_pos (by omega)]
  · refine .inr (.inl ⟨h, ?_⟩)
    unfold Ok2 at h
    rw [if_neg (by omega), if_pos (by omega)]
  · refine .inr (.inr (.inl ⟨h, ?_⟩))
    unfold Ok3 at h
    rw [if_neg (by omega), if_neg (by omega), if_pos (by omega)]
  · refine .inr (.inr (.inr ⟨h, ?_⟩))
    unfold Ok4 at h
    rw [if_neg (by omega), if_neg (by omega), if_neg (by omega)]
end Go.Proofs.YtocbbekciphjgaaDoor.Rdp
/- Rdq -/
/- The reader of a parser, as it lies between two calls and in the midst of one: definitions, and plain laws. -/
namespace Go.Proofs.YtocbbekciphjgaaDoor.Pa
open Go.RowKit Go.Proofs.YtocbbekciphjgaaDoor.Rdp
set_option linter.unusedVariables false
set_option linter.unusedSimpArgs false
/-- What a parser reads, and where: its two buffers' blocks, its text, the error of a text's end. -/
structure Kn where
  r : Nat
  q : Nat
  A : Option Addr
  T : List Int
  ci : Nat
  E : Value
/-- The blocks of a parser p. -/
def Kn.bs (k : Kn) (p : Nat) : List Nat := [p, k.r, k.q]
/-- What never turns. -/
structure Kn.Ok (k : Kn) (p : Nat) : Prop where
  pr : p ≠ k.r
  pq : p ≠ k.q
  rq : k.r ≠ k.q
  two : 2 ∉ k.bs p
  src : ∀ b o, k.A = some ⟨b, o, none⟩ → 0 < k.T.length → b ∉ k.bs p
  eof : IsEof k.E
  good : Rdp.Good k.T
  tlen : k.T.length ≤ 2147483647
  tcap : k.T.length ≤ k.ci
/-- A byte. -/
def by8 (x : Int) : Value := .int .u8 x
/-- A parser's reader: c: where the text's next character begins; u: so many characters lie ready; bp, bl: where in the buffer, and how long it is; rl, rpos: the raw buffer's; ip: so many bytes of the text have been taken. -/
structure Lay (k : Kn) (p c u bp bl rl rpos ip : Nat) (eof : Bool) (L RL BL : List Value) (w : World) : Prop where
  pb : Bk w p 120 L
  plen : L.length = 52
  rb : Bk w k.r 5 RL
  rlen : RL.length = 512
  qb : Bk w k.q 5 BL
  qlen : BL.length = 1536
  qall : ∀ i, i < 1536 → ∃ x, BL[i]? = some (by8 x)
  inp : In w k.A k.T
  ev : w.cell? ⟨2, 0, none⟩ = some k.E
  at11 : L[11]? = some rdr
  at13 : L[13]? = some (.slice k.A k.T.length k.ci)
  at14 : L[14]? = some (.int .i64 (ip : Nat))
  at15 : L[15]? = some (.bool eof)
  at17 : L[17]? = some (.int .i64 (bp : Nat))
  at18 : L[18]? = some (.int .i64 (u : Nat))
  at20 : L[20]? = some (.slice (some ⟨k.r, 0, none⟩) rl 512)
  at21 : L[21]? = some (.int .i64 (rpos : Nat))
  at23 : L[23]? = some (.int .i64 (ip - (rl - rpos) : Nat))
  hip : ip ≤ k.T.length
  hrl : rl ≤ 512
  hrpos : rpos ≤ rl
  hraw : rl - rpos ≤ ip
  hbp : bp ≤ bl
  hbl : bl ≤ 541
  buf : ∀ i, i < bl - bp → BL[bp + i]? = some (by8 (S k.T (c + i)))
  raw : ∀ j, j < rl - rpos → RL[rpos + j]? = some (by8 (S k.T (ip - (rl - rpos) + j)))
/-- All that lies ready is of the text. -/
structure ModeA (T : List Int) (c u n rest ip : Nat) : Prop where
  at1 : c + n = ip - rest
  at2 : adv T c u = ip - rest
  bd : Bd T (ip - rest)
/-- The text has been read; noughts lie behind it. -/
structure ModeB (T : List Int) (c u n rest ip : Nat) (eof : Bool) : Prop where
  eof : eof = true
  none : rest = 0
  all : ip = T.length
  out : T.length ≤ c + n
  lo : adv T c u ≤ c + n
  hi : c + n ≤ adv T c u + 8
  cov : T.length ≤ adv T c u
/-- A parser's reader between two calls. st: its encoding is known. -/
structure Rdr (k : Kn) (p c u bp bl : Nat) (L : List Value) (w : World) : Prop where
  ok : k.Ok p
  at16 : L[16]? = some (.slice (some ⟨k.q, 0, none⟩) bl 1536)
  bd : c < k.T.length → Bd k.T c
  ex : ∃ rl rpos ip eof RL BL st, Lay k p c u bp bl rl rpos ip eof L RL BL w ∧ L[22]? = some (.int .i64 (if st then 1 else 0)) ∧
    ((ModeA k.T c u (bl - bp) (rl - rpos) ip ∧ eof = false ∧ (st = false → ip = 0 ∧ rl = 0 ∧ rpos = 0 ∧ bl = 0 ∧ bp = 0 ∧ u = 0 ∧ c = 0)) ∨ (ModeB k.T c u (bl - bp) (rl - rpos) ip eof ∧ st = true))
/-- Where a parser's reader may write. -/
def rdOff (j : Nat) : Prop := j ≠ 14 ∧ j ≠ 15 ∧ j ≠ 16 ∧ j ≠ 17 ∧ j ≠ 18 ∧ j ≠ 20 ∧ j ≠ 21 ∧ j ≠ 22 ∧ j ≠ 23
/-- What lies ready at a place, behind so many bytes. -/
theorem Rdr.byte {k : Kn} {p c u bp bl : Nat} {L : List Value} {w : World} (h : Rdr k p c u bp bl L w) (i : Nat) (hi : bp + i < bl) : w.cell? ⟨k.q, bp + i, none⟩ = some (.int .u8 (S k.T (c + i))) := by
  obtain ⟨rl, rpos, ip, eof, RL, BL, st, hl, _⟩ := h.ex
  rw [(hl.qb.cell (bp + i)).1]
  exact hl.buf i (by omega)
theorem Rdr.pb {k : Kn} {p c u bp bl : Nat} {L : List Value} {w : World} (h : Rdr k p c u bp bl L w) : Bk w p 120 L := by
  obtain ⟨rl, rpos, ip, eof, RL, BL, st, hl, _⟩ := h.ex
  exact hl.pb
theorem Rdr.plen {k : Kn} {p c u bp bl : Nat} {L : List Value} {w : World} (h : Rdr k p c u bp bl L w) : L.length = 52 := by
  obtain ⟨rl, rpos, ip, eof, RL, BL, st, hl, _⟩ := h.ex
  exact hl.plen
theorem Rdr.at17 {k : Kn} {p c u bp bl : Nat} {L : List Value} {w : World} (h : Rdr k p c u bp bl L w) : L[17]? = some (.int .i64 (bp : Nat)) := by
  obtain ⟨rl, rpos, ip, eof, RL, BL, st, hl, _⟩ := h.ex
  exact hl.at17
theorem Rdr.at18 {k : Kn} {p c u bp bl : Nat} {L : List Value} {w : World} (h : Rdr k p c u bp bl L w) : L[18]? = some (.int .i64 (u : Nat)) := by
  obtain ⟨rl, rpos, ip, eof, RL, BL, st, hl, _⟩ := h.ex
  exact hl.at18
theorem Rdr.small {k : Kn} {p c u bp bl : Nat} {L : List Value} {w : World} (h : Rdr k p c u bp bl L w) : bp ≤ bl ∧ bl ≤ 541 := by
  obtain ⟨rl, rpos, ip, eof, RL, BL, st, hl, _⟩ := h.ex
  exact ⟨hl.hbp, hl.hbl⟩
/-- So many characters lie ready, at the least. -/
theorem Rdr.ready {k : Kn} {p c u bp bl : Nat} {L : List Value} {w : World} (h : Rdr k p c u bp bl L w) (n : Nat) (hn : n ≤ u) : adv k.T c n ≤ c + (bl - bp) := by
  obtain ⟨rl, rpos, ip, eof, RL, BL, st, hl, _, hm⟩ := h.ex
  have := adv_mono k.T c hn
  rcases hm with ⟨hA, _⟩ | ⟨hB, _⟩
  · have := hA.at1; have := hA.at2; omega
  · have := hB.lo; omega
/-- Only the parser's own other cells have turned. -/
theorem Rdr.turn {k : Kn} {p c u bp bl : Nat} {L L' : List Value} {w w' : World} (h : Rdr k p c u bp bl L w) (hb : Bk w' p 120 L') (hl : L'.length = 52) (hk : Kp [p] w w') (ho : ∀ j, j = 11 ∨ j = 13 ∨ j = 14 ∨ j = 15 ∨ j = 16 ∨ j = 17 ∨ j = 18 ∨ j = 20 ∨ j = 21 ∨ j = 22 ∨ j = 23 → L'[j]? = L[j]?) : Rdr k p c u bp bl L' w' := by
  obtain ⟨rl, rpos, ip, eof, RL, BL, st, h1, h22, hm⟩ := h.ex
  have ok := h.ok
  have h2 : 2 ∉ [p] := fun hh => ok.two (by unfold Kn.bs; simp at hh ⊢; exact .inl hh)
  refine ⟨ok, (ho 16 (by omega)).trans h.at16, h.bd, rl, rpos, ip, eof, RL, BL, st, ⟨hb, hl, h1.rb.kp hk (by simp; exact Ne.symm ok.pr), h1.rlen, h1.qb.kp hk (by simp; exact Ne.symm ok.pq), h1.qlen, h1.qall, h1.inp.kp hk (fun b o e h0 hh => ok.src b o e h0 (by unfold Kn.bs; simp at hh ⊢; exact .inl hh)), (hk.cell (x := ⟨2, 0, none⟩) (World.block_lt_of_cell? w ⟨2, 0, none⟩ h1.ev) h2).trans h1.ev, ?_, ?_, ?_, ?_, ?_, ?_, ?_, ?_, ?_, h1.hip, h1.hrl, h1.hrpos, h1.hraw, h1.hbp, h1.hbl, h1.buf, h1.raw⟩, (ho 22 (by omega)).trans h22, hm⟩
  · exact (ho 11 (by omega)).trans h1.at11
  · exact (ho 13 (by omega)).trans h1.at13
  · exact (ho 14 (by omega)).trans h1.at14
  · exact (ho 15 (by omega)).trans h1.at15
  · exact (ho 17 (by omega)).trans h1.at17
  · exact (ho 18 (by omega)).trans h1.at18
  · exact (ho 20 (by omega)).trans h1.at20
  · exact (ho 21 (by omega)).trans h1.at21
  · exact (ho 23 (by omega)).trans h1.at23
theorem nx_bd {T : List Int} (hG : Rdp.Good T) {c : Nat} (h : c < T.length → Bd T c) : nx T c < T.length → Bd T (nx T c) := by
  intro hn
  have := nx_lt T c
  exact .next (h (by omega)) (by omega)
/-- One character on. -/
theorem Rdr.step {k : Kn} {p c u bp bl : Nat} {L L' : List Value} {w w' : World} (h : Rdr k p c (u + 1) bp bl L w) (hb : Bk w' p 120 L') (hl : L'.length = 52) (hk : Kp [p] w w')
    (h17 : L'[17]? = some (.int .i64 (bp + cw (S k.T c) : Nat))) (h18 : L'[18]? = some (.int .i64 (u : Nat))) (ho : ∀ j, j = 11 ∨ j = 13 ∨ j = 14 ∨ j = 15 ∨ j = 16 ∨ j = 20 ∨ j = 21 ∨ j = 22 ∨ j = 23 → L'[j]? = L[j]?) : Rdr k p (nx k.T c) u (bp + cw (S k.T c)) bl L' w' := by
  have hrd := h.ready 1 (by omega)
  have hsm := h.small
  obtain ⟨rl, rpos, ip, eof, RL, BL, st, h1, h22, hm⟩ := h.ex
  have ok := h.ok
  have h2 : 2 ∉ [p] := fun hh => ok.two (by unfold Kn.bs; simp at hh ⊢; exact .inl hh)
  have hnx : nx k.T c = c + cw (S k.T c) := rfl
  have hadv : adv k.T c 1 = nx k.T c := rfl
  rw [hadv, hnx] at hrd
  have hbuf : ∀ i, i < bl - (bp + cw (S k.T c)) → BL[bp + cw (S k.T c) + i]? = some (by8 (S k.T (nx k.T c + i))) := fun i hi => by
    have := h1.buf (cw (S k.T c) + i) (by omega)
    rw [hnx, Nat.add_assoc, Nat.add_assoc]
    exact this
  have hpos := cw_pos (S k.T c)
  refine ⟨ok, (ho 16 (by omega)).trans h.at16, nx_bd ok.good h.bd, rl, rpos, ip, eof, RL, BL, st, ⟨hb, hl, h1.rb.kp hk (by simp; exact Ne.symm ok.pr), h1.rlen, h1.qb.kp hk (by simp; exact Ne.symm ok.pq), h1.qlen, h1.qall, h1.inp.kp hk (fun b o e h0 hh => ok.src b o e h0 (by unfold Kn.bs; simp at hh ⊢; exact .inl hh)), (hk.cell (x := ⟨2, 0, none⟩) (World.block_lt_of_cell? w ⟨2, 0, none⟩ h1.ev) h2).trans h1.ev, ?_, ?_, ?_, ?_, h17, h18, ?_, ?_, ?_, h1.hip, h1.hrl, h1.hrpos, h1.hraw, by omega, h1.hbl, hbuf, h1.raw⟩, (ho 22 (by omega)).trans h22, ?_⟩
  · exact (ho 11 (by omega)).trans h1.at11
  · exact (ho 13 (by omega)).trans h1.at13
  · exact (ho 14 (by omega)).trans h1.at14
  · exact (ho 15 (by omega)).trans h1.at15
  · exact (ho 20 (by omega)).trans h1.at20
  · exact (ho 21 (by omega)).trans h1.at21
  · exact (ho 23 (by omega)).trans h1.at23
  · have hadvs : adv k.T c (u + 1) = adv k.T (nx k.T c) u := adv_front k.T u c
    rcases hm with ⟨hA, he, hs⟩ | ⟨hB, hs⟩
    · refine .inl ⟨⟨?_, ?_, hA.bd⟩, he, fun e => by have := hs e; omega⟩
      · have := hA.at1; omega
      · rw [← hadvs]; exact hA.at2
    · refine .inr ⟨⟨hB.eof, hB.none, hB.all, ?_, ?_, ?_, ?_⟩, hs⟩
      · have := hB.out; omega
      · have := hB.lo; rw [hadvs] at this; omega
      · have := hB.hi; rw [hadvs] at this; omega
      · have := hB.cov; rw [hadvs] at this; exact this
/-- What is there at the beginning. -/
theorem good_at {T : List Int} (hG : Rdp.Good T) {c : Nat} (h : c < T.length → Bd T c) (hc : c < T.length) : okAt T c ∧ nx T c ≤ T.length := hG.chars c (h hc) hc
end Go.Proofs.YtocbbekciphjgaaDoor.Pa
/- PaI -/
/- The reader of a parser in the midst of a call (yaml_parser_update_buffer): plain laws of the world. -/
namespace Go.Proofs.YtocbbekciphjgaaDoor.Pa
open Go.RowKit Go.Proofs.YtocbbekciphjgaaDoor.Rdp
set_option linter.unusedVariables false
set_option linter.unusedSimpArgs false
/-- In the midst of a call: the buffer is open. -/
structure Inn (k : Kn) (p c u bl rl rpos ip : Nat) (eof : Bool) (L0 L RL BL : List Value) (w0 w : World) : Prop where
  lay : Lay k p c u 0 bl rl rpos ip eof L RL BL w
  at16 : L[16]? = some (.slice (some ⟨k.q, 0, none⟩) 1536 1536)
  at22 : L[22]? = some (.int .i64 1)
  ok : k.Ok p
  old : ∀ j, rdOff j → L[j]? = L0[j]?
  kp : Kp (k.bs p) w0 w
  size : w.heap.size = w0.heap.size
theorem Kn.mp (k : Kn) (p : Nat) : p ∈ k.bs p := by unfold Kn.bs; simp
theorem Kn.mr (k : Kn) (p : Nat) : k.r ∈ k.bs p := by unfold Kn.bs; simp
theorem Kn.mq (k : Kn) (p : Nat) : k.q ∈ k.bs p := by unfold Kn.bs; simp
theorem Kn.Ok.sub {k : Kn} {p : Nat} (h : k.Ok p) {b : Nat} (hb : b ∉ k.bs p) : b ∉ [p, k.r] ∧ b ∉ [p, k.q] ∧ b ∉ [p] ∧ b ∉ [k.q] := by
  unfold Kn.bs at hb
  simp at hb ⊢
  omega
theorem lset_ne {L : List Value} {i j : Nat} {v : Value} (h : j ≠ i) : (L.set i v)[j]? = L[j]? := List.getElem?_set_ne (Ne.symm h)
theorem lset_at {L : List Value} {i : Nat} {v : Value} (h : i < L.length) : (L.set i v)[i]? = some v := List.getElem?_set_self h
/-- A cell of the parser's own is written. -/
theorem In.cell {k : Kn} {p : Nat} {w : World} (h : In w k.A k.T) (ok : k.Ok p) (b i : Nat) (v : Value) (hb : b ∈ k.bs p) : In (w.setCell ⟨b, i, none⟩ v) k.A k.T :=
  h.kp ((Kp.refl (k.bs p) w).setCell b i v hb) ok.src
theorem ev_cell {k : Kn} {p : Nat} {w : World} (h : w.cell? ⟨2, 0, none⟩ = some k.E) (ok : k.Ok p) (b i : Nat) (v : Value) (hb : b ∈ k.bs p) : (w.setCell ⟨b, i, none⟩ v).cell? ⟨2, 0, none⟩ = some k.E := by
  rw [World.cell?_of_block (w := w) (a := ⟨2, 0, none⟩) (Below.heap_setCell w ⟨b, i, none⟩ v 2 (by rintro rfl; exact ok.two hb))]
  exact h
/-- What is left to be shown when a character has been decoded. -/
theorem Inn.ate {k : Kn} {p c u bl rl rpos ip m : Nat} {eof : Bool} {L0 L RL BL L' BL' : List Value} {w0 w w' : World} (h : Inn k p c u bl rl rpos ip eof L0 L RL BL w0 w) (hA : ModeA k.T c u bl (rl - rpos) ip)
    (hm : m ≤ rl - rpos) (hm1 : 1 ≤ m) (hcw : nx k.T (ip - (rl - rpos)) = ip - (rl - rpos) + m) (hb : bl + (rl - rpos) ≤ 540)
    (pb : Bk w' p 120 L') (qb : Bk w' k.q 5 BL') (rb : Bk w' k.r 5 RL) (hin : In w' k.A k.T) (hev : w'.cell? ⟨2, 0, none⟩ = some k.E) (hkp : Kp (k.bs p) w w') (hsz : w'.heap.size = w.heap.size)
    (pl : L'.length = 52) (ql : BL'.length = 1536) (qa : ∀ i, i < 1536 → ∃ x, BL'[i]? = some (by8 x))
    (a18 : L'[18]? = some (.int .i64 (u + 1 : Nat))) (a21 : L'[21]? = some (.int .i64 (rpos + m : Nat))) (a23 : L'[23]? = some (.int .i64 (ip - (rl - rpos) + m : Nat))) (ao : ∀ j, j ≠ 18 → j ≠ 21 → j ≠ 23 → L'[j]? = L[j]?)
    (b0 : ∀ i, i < bl → BL'[i]? = BL[i]?) (b1 : ∀ i, i < m → BL'[bl + i]? = some (by8 (S k.T (ip - (rl - rpos) + i)))) :
    Inn k p c (u + 1) (bl + m) rl (rpos + m) ip eof L0 L' RL BL' w0 w' ∧ ModeA k.T c (u + 1) (bl + m) (rl - (rpos + m)) ip ∧ bl + m + (rl - (rpos + m)) ≤ 540 := by
  have hl := h.lay
  have h1 := hA.at1
  have h2 := hA.at2
  have hip := hl.hip
  have hraw := hl.hraw
  have hrp := hl.hrpos
  refine ⟨⟨⟨pb, pl, rb, hl.rlen, qb, ql, qa, hin, hev, ?_, ?_, ?_, ?_, ?_, a18, ?_, a21, ?_, hip, hl.hrl, by omega, by omega, by omega, by omega, ?_, ?_⟩, ?_, ?_, h.ok, ?_, h.kp.trans hkp, hsz.trans h.size⟩, ⟨?_, ?_, ?_⟩, by omega⟩
  · exact (ao 11 (by omega) (by omega) (by omega)).trans hl.at11
  · exact (ao 13 (by omega) (by omega) (by omega)).trans hl.at13
  · exact (ao 14 (by omega) (by omega) (by omega)).trans hl.at14
  · exact (ao 15 (by omega) (by omega) (by omega)).trans hl.at15
  · exact (ao 17 (by omega) (by omega) (by omega)).trans hl.at17
  · exact (ao 20 (by omega) (by omega) (by omega)).trans hl.at20
  · rw [a23]; congr 2; congr 1; omega
  · intro i hi
    rw [Nat.zero_add]
    by_cases hlt : i < bl
    · rw [b0 i hlt]
      have := hl.buf i (by omega)
      rw [Nat.zero_add] at this
      exact this
    · obtain ⟨j, rfl⟩ : ∃ j, i = bl + j := ⟨i - bl, by omega⟩
      rw [b1 j (by omega)]
      congr 3
      omega
  · intro j hj
    have := hl.raw (m + j) (by omega)
    rw [show rpos + m + j = rpos + (m + j) by omega, this]
    congr 3
    omega
  · exact (ao 16 (by omega) (by omega) (by omega)).trans h.at16
  · exact (ao 22 (by omega) (by omega) (by omega)).trans h.at22
  · intro j hj
    unfold rdOff at hj
    rw [ao j (by omega) (by omega) (by omega)]
    exact h.old j (by unfold rdOff; omega)
  · omega
  · have : adv k.T c (u + 1) = nx k.T (adv k.T c u) := rfl
    rw [this, h2, hcw]
    omega
  · have : ip - (rl - (rpos + m)) = nx k.T (ip - (rl - rpos)) := by rw [hcw]; omega
    rw [this]
    exact .next hA.bd (by omega)
theorem Inn.eat1 {k : Kn} {p c u bl rl rpos ip : Nat} {eof : Bool} {L0 L RL BL : List Value} {w0 w : World} (h : Inn k p c u bl rl rpos ip eof L0 L RL BL w0 w) (hA : ModeA k.T c u bl (rl - rpos) ip)
    (hm : 1 ≤ rl - rpos) (hcw : nx k.T (ip - (rl - rpos)) = ip - (rl - rpos) + 1) (hb : bl + (rl - rpos) ≤ 540) {v18 v21 v23 : Int} {x0 : Int} (e18 : v18 = (u + 1 : Nat)) (e21 : v21 = (rpos + 1 : Nat)) (e23 : v23 = (ip - (rl - rpos) + 1 : Nat)) (hx0 : x0 = S k.T (ip - (rl - rpos))) :
    Inn k p c (u + 1) (bl + 1) rl (rpos + 1) ip eof L0 (((L.set 21 (.int .i64 v21)).set 23 (.int .i64 v23)).set 18 (.int .i64 v18)) RL (BL.set (bl) (by8 x0)) w0 ((((w.setCell ⟨p, 21, none⟩ (.int .i64 v21)).setCell ⟨p, 23, none⟩ (.int .i64 v23)).setCell ⟨k.q, bl, none⟩ (.int .u8 x0)).setCell ⟨p, 18, none⟩ (.int .i64 v18)) ∧ ModeA k.T c (u + 1) (bl + 1) (rl - (rpos + 1)) ip ∧ bl + 1 + (rl - (rpos + 1)) ≤ 540 := by
  have hl := h.lay
  have ok := h.ok
  have hq := hl.hbl
  have hql := hl.qlen
  have hpl := hl.plen
  have hkp : Kp (k.bs p) w ((((w.setCell ⟨p, 21, none⟩ (.int .i64 v21)).setCell ⟨p, 23, none⟩ (.int .i64 v23)).setCell ⟨k.q, bl, none⟩ (.int .u8 x0)).setCell ⟨p, 18, none⟩ (.int .i64 v18)) := ((((Kp.refl (k.bs p) w).setCell p 21 _ (k.mp p)).setCell p 23 _ (k.mp p)).setCell k.q (bl) _ (k.mq p)).setCell p 18 _ (k.mp p)
  refine h.ate (m := 1) hA hm (by omega) hcw hb ((((hl.pb.set 21 _).set 23 _).other k.q (bl) _ ok.pq).set 18 _) ((((hl.qb.other p 21 _ (Ne.symm ok.pq)).other p 23 _ (Ne.symm ok.pq)).set (bl) _).other p 18 _ (Ne.symm ok.pq)) ((((hl.rb.other p 21 _ (Ne.symm ok.pr)).other p 23 _ (Ne.symm ok.pr)).other k.q (bl) _ ok.rq).other p 18 _ (Ne.symm ok.pr)) ((((hl.inp.cell ok p 21 _ (k.mp p)).cell ok p 23 _ (k.mp p)).cell ok k.q (bl) _ (k.mq p)).cell ok p 18 _ (k.mp p)) (ev_cell (ev_cell (ev_cell (ev_cell hl.ev ok p 21 _ (k.mp p)) ok p 23 _ (k.mp p)) ok k.q (bl) _ (k.mq p)) ok p 18 _ (k.mp p)) hkp (by simp) (by simp; exact hpl) (by simp; exact hql) ?_ ?_ ?_ ?_ ?_ ?_ ?_
  · intro i hi
    by_cases e0 : i = bl
    · subst e0; exact ⟨_, lset_at (by first | omega | (simp only [List.length_set]; omega))⟩
    rw [lset_ne e0]
    exact hl.qall i hi
  · rw [lset_at (by simp only [List.length_set]; omega), e18]
  · rw [lset_ne (by omega), lset_ne (by omega), lset_at (by omega), e21]
  · rw [lset_ne (by omega), lset_at (by simp only [List.length_set]; omega), e23]
  · intro j h1 h2 h3
    rw [lset_ne h1, lset_ne h3, lset_ne h2]
  · intro i hi
    rw [lset_ne (by omega)]
  · intro i hi
    have hc : i = 0 := by omega
    subst hc
    simp only [Nat.add_zero]
    rw [lset_at (by omega), hx0]
theorem Inn.eat2 {k : Kn} {p c u bl rl rpos ip : Nat} {eof : Bool} {L0 L RL BL : List Value} {w0 w : World} (h : Inn k p c u bl rl rpos ip eof L0 L RL BL w0 w) (hA : ModeA k.T c u bl (rl - rpos) ip)
    (hm : 2 ≤ rl - rpos) (hcw : nx k.T (ip - (rl - rpos)) = ip - (rl - rpos) + 2) (hb : bl + (rl - rpos) ≤ 540) {v18 v21 v23 : Int} {x0 x1 : Int} (e18 : v18 = (u + 1 : Nat)) (e21 : v21 = (rpos + 2 : Nat)) (e23 : v23 = (ip - (rl - rpos) + 2 : Nat)) (hx0 : x0 = S k.T (ip - (rl - rpos))) (hx1 : x1 = S k.T (ip - (rl - rpos) + 1)) :
    Inn k p c (u + 1) (bl + 2) rl (rpos + 2) ip eof L0 (((L.set 21 (.int .i64 v21)).set 23 (.int .i64 v23)).set 18 (.int .i64 v18)) RL ((BL.set (bl) (by8 x0)).set (bl + 1) (by8 x1)) w0 (((((w.setCell ⟨p, 21, none⟩ (.int .i64 v21)).setCell ⟨p, 23, none⟩ (.int .i64 v23)).setCell ⟨k.q, bl, none⟩ (.int .u8 x0)).setCell ⟨k.q, bl + 1, none⟩ (.int .u8 x1)).setCell ⟨p, 18, none⟩ (.int .i64 v18)) ∧ ModeA k.T c (u + 1) (bl + 2) (rl - (rpos + 2)) ip ∧ bl + 2 + (rl - (rpos + 2)) ≤ 540 := by
  have hl := h.lay
  have ok := h.ok
  have hq := hl.hbl
  have hql := hl.qlen
  have hpl := hl.plen
  have hkp : Kp (k.bs p) w (((((w.setCell ⟨p, 21, none⟩ (.int .i64 v21)).setCell ⟨p, 23, none⟩ (.int .i64 v23)).setCell ⟨k.q, bl, none⟩ (.int .u8 x0)).setCell ⟨k.q, bl + 1, none⟩ (.int .u8 x1)).setCell ⟨p, 18, none⟩ (.int .i64 v18)) := (((((Kp.refl (k.bs p) w).setCell p 21 _ (k.mp p)).setCell p 23 _ (k.mp p)).setCell k.q (bl) _ (k.mq p)).setCell k.q (bl + 1) _ (k.mq p)).setCell p 18 _ (k.mp p)
  refine h.ate (m := 2) hA hm (by omega) hcw hb (((((hl.pb.set 21 _).set 23 _).other k.q (bl) _ ok.pq).other k.q (bl + 1) _ ok.pq).set 18 _) (((((hl.qb.other p 21 _ (Ne.symm ok.pq)).other p 23 _ (Ne.symm ok.pq)).set (bl) _).set (bl + 1) _).other p 18 _ (Ne.symm ok.pq)) (((((hl.rb.other p 21 _ (Ne.symm ok.pr)).other p 23 _ (Ne.symm ok.pr)).other k.q (bl) _ ok.rq).other k.q (bl + 1) _ ok.rq).other p 18 _ (Ne.symm ok.pr)) (((((hl.inp.cell ok p 21 _ (k.mp p)).cell ok p 23 _ (k.mp p)).cell ok k.q (bl) _ (k.mq p)).cell ok k.q (bl + 1) _ (k.mq p)).cell ok p 18 _ (k.mp p)) (ev_cell (ev_cell (ev_cell (ev_cell (ev_cell hl.ev ok p 21 _ (k.mp p)) ok p 23 _ (k.mp p)) ok k.q (bl) _ (k.mq p)) ok k.q (bl + 1) _ (k.mq p)) ok p 18 _ (k.mp p)) hkp (by simp) (by simp; exact hpl) (by simp; exact hql) ?_ ?_ ?_ ?_ ?_ ?_ ?_
  · intro i hi
    by_cases e1 : i = bl + 1
    · subst e1; exact ⟨_, lset_at (by first | omega | (simp only [List.length_set]; omega))⟩
    rw [lset_ne e1]
    by_cases e0 : i = bl
    · subst e0; exact ⟨_, lset_at (by first | omega | (simp only [List.length_set]; omega))⟩
    rw [lset_ne e0]
    exact hl.qall i hi
  · rw [lset_at (by simp only [List.length_set]; omega), e18]
  · rw [lset_ne (by omega), lset_ne (by omega), lset_at (by omega), e21]
  · rw [lset_ne (by omega), lset_at (by simp only [List.length_set]; omega), e23]
  · intro j h1 h2 h3
    rw [lset_ne h1, lset_ne h3, lset_ne h2]
  · intro i hi
    rw [lset_ne (by omega), lset_ne (by omega)]
  · intro i hi
    have hc : i = 0 ∨ i = 1 := by omega
    rcases hc with rfl | rfl
    · simp only [Nat.add_zero]
      rw [lset_ne (by omega), lset_at (by omega), hx0]
    · rw [lset_at (by simp only [List.length_set]; omega), hx1]
theorem Inn.eat3 {k : Kn} {p c u bl rl rpos ip : Nat} {eof : Bool} {L0 L RL BL : List Value} {w0 w : World} (h : Inn k p c u bl rl rpos ip eof L0 L RL BL w0 w) (hA : ModeA k.T c u bl (rl - rpos) ip)
    (hm : 3 ≤ rl - rpos) (hcw : nx k.T (ip - (rl - rpos)) = ip - (rl - rpos) + 3) (hb : bl + (rl - rpos) ≤ 540) {v18 v21 v23 : Int} {x0 x1 x2 : Int} (e18 : v18 = (u + 1 : Nat)) (e21 : v21 = (rpos + 3 : Nat)) (e23 : v23 = (ip - (rl - rpos) + 3 : Nat)) (hx0 : x0 = S k.T (ip - (rl - rpos))) (hx1 : x1 = S k.T (ip - (rl - rpos) + 1)) (hx2 : x2 = S k.T (ip - (rl - rpos) + 2)) :
    Inn k p c (u + 1) (bl + 3) rl (rpos + 3) ip eof L0 (((L.set 21 (.int .i64 v21)).set 23 (.int .i64 v23)).set 18 (.int .i64 v18)) RL (((BL.set (bl) (by8 x0)).set (bl + 1) (by8 x1)).set (bl + 2) (by8 x2)) w0 ((((((w.setCell ⟨p, 21, none⟩ (.int .i64 v21)).setCell ⟨p, 23, none⟩ (.int .i64 v23)).setCell ⟨k.q, bl, none⟩ (.int .u8 x0)).setCell ⟨k.q, bl + 1, none⟩ (.int .u8 x1)).setCell ⟨k.q, bl + 2, none⟩ (.int .u8 x2)).setCell ⟨p, 18, none⟩ (.int .i64 v18)) ∧ ModeA k.T c (u + 1) (bl + 3) (rl - (rpos + 3)) ip ∧ bl + 3 + (rl - (rpos + 3)) ≤ 540 := by
  have hl := h.lay
  have ok := h.ok
  have hq := hl.hbl
  have hql := hl.qlen
  have hpl := hl.plen
  have hkp : Kp (k.bs p) w ((((((w.setCell ⟨p, 21, none⟩ (.int .i64 v21)).setCell ⟨p, 23, none⟩ (.int .i64 v23)).setCell ⟨k.q, bl, none⟩ (.int .u8 x0)).setCell ⟨k.q, bl + 1, none⟩ (.int .u8 x1)).setCell ⟨k.q, bl + 2, none⟩ (.int .u8 x2)).setCell ⟨p, 18, none⟩ (.int .i64 v18)) := ((((((Kp.refl (k.bs p) w).setCell p 21 _ (k.mp p)).setCell p 23 _ (k.mp p)).setCell k.q (bl) _ (k.mq p)).setCell k.q (bl + 1) _ (k.mq p)).setCell k.q (bl + 2) _ (k.mq p)).setCell p 18 _ (k.mp p)
  refine h.ate (m := 3) hA hm (by omega) hcw hb ((((((hl.pb.set 21 _).set 23 _).other k.q (bl) _ ok.pq).other k.q (bl + 1) _ ok.pq).other k.q (bl + 2) _ ok.pq).set 18 _) ((((((hl.qb.other p 21 _ (Ne.symm ok.pq)).other p 23 _ (Ne.symm ok.pq)).set (bl) _).set (bl + 1) _).set (bl + 2) _).other p 18 _ (Ne.symm ok.pq)) ((((((hl.rb.other p 21 _ (Ne.symm ok.pr)).other p 23 _ (Ne.symm ok.pr)).other k.q (bl) _ ok.rq).other k.q (bl + 1) _ ok.rq).other k.q (bl + 2) _ ok.rq).other p 18 _ (Ne.symm ok.pr)) ((((((hl.inp.cell ok p 21 _ (k.mp p)).cell ok p 23 _ (k.mp p)).cell ok k.q (bl) _ (k.mq p)).cell ok k.q (bl + 1) _ (k.mq p)).cell ok k.q (bl + 2) _ (k.mq p)).cell ok p 18 _ (k.mp p)) (ev_cell (ev_cell (ev_cell (ev_cell (ev_cell (ev_cell hl.ev ok p 21 _ (k.mp p)) ok p 23 _ (k.mp p)) ok k.q (bl) _ (k.mq p)) ok k.q (bl + 1) _ (k.mq p)) ok k.q (bl + 2) _ (k.mq p)) ok p 18 _ (k.mp p)) hkp (by simp) (by simp; exact hpl) (by simp; exact hql) ?_ ?_ ?_ ?_ ?_ ?_ ?_
  · intro i hi
    by_cases e2 : i = bl + 2
    · subst e2; exact ⟨_, lset_at (by first | omega | (simp only [List.length_set]; omega))⟩
    rw [lset_ne e2]
    by_cases e1 : i = bl + 1
    · subst e1; exact ⟨_, lset_at (by first | omega | (simp only [List.length_set]; omega))⟩
    rw [lset_ne e1]
    by_cases e0 : i = bl
    · subst e0; exact ⟨_, lset_at (by first | omega | (simp only [List.length_set]; omega))⟩
    rw [lset_ne e0]
    exact hl.qall i hi
  · rw [lset_at (by simp only [List.length_set]; omega), e18]
  · rw [lset_ne (by omega), lset_ne (by omega), lset_at (by omega), e21]
  · rw [lset_ne (by omega), lset_at (by simp only [List.length_set]; omega), e23]
  · intro j h1 h2 h3
    rw [lset_ne h1, lset_ne h3, lset_ne h2]
  · intro i hi
    rw [lset_ne (by omega), lset_ne (by omega), lset_ne (by omega)]
  · intro i hi
    have hc : i = 0 ∨ i = 1 ∨ i = 2 := by omega
    rcases hc with rfl | rfl | rfl
    · simp only [Nat.add_zero]
      rw [lset_ne (by omega), lset_ne (by omega), lset_at (by omega), hx0]
    · rw [lset_ne (by omega), lset_at (by simp only [List.length_set]; omega), hx1]
    · rw [lset_at (by simp only [List.length_set]; omega), hx2]
theorem Inn.eat4 {k : Kn} {p c u bl rl rpos ip : Nat} {eof : Bool} {L0 L RL BL : List Value} {w0 w : World} (h : Inn k p c u bl rl rpos ip eof L0 L RL BL w0 w) (hA : ModeA k.T c u bl (rl - rpos) ip)
    (hm : 4 ≤ rl - rpos) (hcw : nx k.T (ip - (rl - rpos)) = ip - (rl - rpos) + 4) (hb : bl + (rl - rpos) ≤ 540) {v18 v21 v23 : Int} {x0 x1 x2 x3 : Int} (e18 : v18 = (u + 1 : Nat)) (e21 : v21 = (rpos + 4 : Nat)) (e23 : v23 = (ip - (rl - rpos) + 4 : Nat)) (hx0 : x0 = S k.T (ip - (rl - rpos))) (hx1 : x1 = S k.T (ip - (rl - rpos) + 1)) (hx2 : x2 = S k.T (ip - (rl - rpos) + 2)) (hx3 : x3 = S k.T (ip - (rl - rpos) + 3)) :
    Inn k p c (u + 1) (bl + 4) rl (rpos + 4) ip eof L0 (((L.set 21 (.int .i64 v21)).set 23 (.int .i64 v23)).set 18 (.int .i64 v18)) RL ((((BL.set (bl) (by8 x0)).set (bl + 1) (by8 x1)).set (bl + 2) (by8 x2)).set (bl + 3) (by8 x3)) w0 (((((((w.setCell ⟨p, 21, none⟩ (.int .i64 v21)).setCell ⟨p, 23, none⟩ (.int .i64 v23)).setCell ⟨k.q, bl, none⟩ (.int .u8 x0)).setCell ⟨k.q, bl + 1, none⟩ (.int .u8 x1)).setCell ⟨k.q, bl + 2, none⟩ (.int .u8 x2)).setCell ⟨k.q, bl + 3, none⟩ (.int .u8 x3)).setCell ⟨p, 18, none⟩ (.int .i64 v18)) ∧ ModeA k.T c (u + 1) (bl + 4) (rl - (rpos + 4)) ip ∧ bl + 4 + (rl - (rpos + 4)) ≤ 540 := by
  have hl := h.lay
  have ok := h.ok
  have hq := hl.hbl
  have hql := hl.qlen
  have hpl := hl.plen
  have hkp : Kp (k.bs p) w (((((((w.setCell ⟨p, 21, none⟩ (.int .i64 v21)).setCell ⟨p, 23, none⟩ (.int .i64 v23)).setCell ⟨k.q, bl, none⟩ (.int .u8 x0)).setCell ⟨k.q, bl + 1, none⟩ (.int .u8 x1)).setCell ⟨k.q, bl + 2, none⟩ (.int .u8 x2)).setCell ⟨k.q, bl + 3, none⟩ (.int .u8 x3)).setCell ⟨p, 18, none⟩ (.int .i64 v18)) := (((((((Kp.refl (k.bs p) w).setCell p 21 _ (k.mp p)).setCell p 23 _ (k.mp p)).setCell k.q (bl) _ (k.mq p)).setCell k.q (bl + 1) _ (k.mq p)).setCell k.q (bl + 2) _ (k.mq p)).setCell k.q (bl + 3) _ (k.mq p)).setCell p 18 _ (k.mp p)
  refine h.ate (m := 4) hA hm (by omega) hcw hb (((((((hl.pb.set 21 _).set 23 _).other k.q (bl) _ ok.pq).other k.q (bl + 1) _ ok.pq).other k.q (bl + 2) _ ok.pq).other k.q (bl + 3) _ ok.pq).set 18 _) (((((((hl.qb.other p 21 _ (Ne.symm ok.pq)).other p 23 _ (Ne.symm ok.pq)).set (bl) _).set (bl + 1) _).set (bl + 2) _).set (bl + 3) _).other p 18 _ (Ne.symm ok.pq)) (((((((hl.rb.other p 21 _ (Ne.symm ok.pr)).other p 23 _ (Ne.symm ok.pr)).other k.q (bl) _ ok.rq).other k.q (bl + 1) _ ok.rq).other k.q (bl + 2) _ ok.rq).other k.q (bl + 3) _ ok.rq).other p 18 _ (Ne.symm ok.pr)) (((((((hl.inp.cell ok p 21 _ (k.mp p)).cell ok p 23 _ (k.mp p)).cell ok k.q (bl) _ (k.mq p)).cell ok k.q (bl + 1) _ (k.mq p)).cell ok k.q (bl + 2) _ (k.mq p)).cell ok k.q (bl + 3) _ (k.mq p)).cell ok p 18 _ (k.mp p)) (ev_cell (ev_cell (ev_cell (ev_cell (ev_cell (ev_cell (ev_cell hl.ev ok p 21 _ (k.mp p)) ok p 23 _ (k.mp p)) ok k.q (bl) _ (k.mq p)) ok k.q (bl + 1) _ (k.mq p)) ok k.q (bl + 2) _ (k.mq p)) ok k.q (bl + 3) _ (k.mq p)) ok p 18 _ (k.mp p)) hkp (by simp) (by simp; exact hpl) (by simp; exact hql) ?_ ?_ ?_ ?_ ?_ ?_ ?_
  · intro i hi
    by_cases e3 : i = bl + 3
    · subst e3; exact ⟨_, lset_at (by first | omega | (simp only [List.length_set]; omega))⟩
    rw [lset_ne e3]
    by_cases e2 : i = bl + 2
    · subst e2; exact ⟨_, lset_at (by first | omega | (simp only [List.length_set]; omega))⟩
    rw [lset_ne e2]
    by_cases e1 : i = bl + 1
    · subst e1; exact ⟨_, lset_at (by first | omega | (simp only [List.length_set]; omega))⟩
    rw [lset_ne e1]
    by_cases e0 : i = bl
    · subst e0; exact ⟨_, lset_at (by first | omega | (simp only [List.length_set]; omega))⟩
    rw [lset_ne e0]
    exact hl.qall i hi
  · rw [lset_at (by simp only [List.length_set]; omega), e18]
  · rw [lset_ne (by omega), lset_ne (by omega), lset_at (by omega), e21]
  · rw [lset_ne (by omega), lset_at (by simp only [List.length_set]; omega), e23]
  · intro j h1 h2 h3
    rw [lset_ne h1, lset_ne h3, lset_ne h2]
  · intro i hi
    rw [lset_ne (by omega), lset_ne (by omega), lset_ne (by omega), lset_ne (by omega)]
  · intro i hi
    have hc : i = 0 ∨ i = 1 ∨ i = 2 ∨ i = 3 := by omega
    rcases hc with rfl | rfl | rfl | rfl
    · simp only [Nat.add_zero]
      rw [lset_ne (by omega), lset_ne (by omega), lset_ne (by omega), lset_at (by omega), hx0]
    · rw [lset_ne (by omega), lset_ne (by omega), lset_at (by simp only [List.length_set]; omega), hx1]
    · rw [lset_ne (by omega), lset_at (by simp only [List.length_set]; omega), hx2]
    · rw [lset_at (by simp only [List.length_set]; omega), hx3]
end Go.Proofs.YtocbbekciphjgaaDoor.Pa
