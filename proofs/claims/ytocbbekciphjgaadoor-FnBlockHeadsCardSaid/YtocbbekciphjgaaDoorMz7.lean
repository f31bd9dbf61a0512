/- QdA, QdB: parts of the proof, one behind another. -/
import Derived.Test.YtocbbekciphjgaaDoorMz5
/- QdA -/
/- What stands between quotes, and what it says, as relations: plain, with no program in sight. -/
namespace Go.Proofs.YtocbbekciphjgaaDoor.Qd
def wh (c : Int) : Bool := c == 32 || c == 9
/-- A line that is a marker of documents begins here. -/
def marker : List Int → Bool
  | a :: b :: c :: d :: _ => (a == 45 || a == 46) && b == a && c == a && (wh d || d == 10)
  | _ => false
/-- Without the white at its beginning. -/
def skipW : List Int → List Int
  | [] => []
  | c :: l => if wh c then skipW l else c :: l
/-- Empty lines, and the white behind them, from the beginning of a line on. -/
inductive Emp : List Int → Nat → List Int → Prop
  | here {l : List Int} : marker l = false → (∀ r, skipW l ≠ 10 :: r) → Emp l 0 (skipW l)
  | more {l r at' : List Int} {n : Nat} : marker l = false → skipW l = 10 :: r → Emp r n at' → Emp l (n + 1) at'
def feeds (n : Nat) : List Int := List.replicate n 10
/-- What a break and the empty lines behind it are. -/
def fold (n : Nat) : List Int := if n = 0 then [32] else feeds n
/-- The character of a letter behind a backslash. -/
def named (c : Int) : Option Int :=
  if c = 48 then some 0 else if c = 97 then some 7 else if c = 98 then some 8 else if c = 116 ∨ c = 9 then some 9 else if c = 110 then some 10 else if c = 118 then some 11 else if c = 102 then some 12
  else if c = 114 then some 13 else if c = 101 then some 27 else if c = 32 ∨ c = 34 ∨ c = 92 then some c else if c = 78 then some 133 else if c = 95 then some 160 else if c = 76 then some 8232 else if c = 80 then some 8233 else none
/-- How many hex digits stand behind a letter. -/
def long (c : Int) : Nat := if c = 120 then 2 else if c = 117 then 4 else if c = 85 then 8 else 0
def hexd (c : Int) : Option Int := if 48 ≤ c ∧ c ≤ 57 then some (c - 48) else if 97 ≤ c ∧ c ≤ 102 then some (c - 87) else if 65 ≤ c ∧ c ≤ 70 then some (c - 55) else none
/-- What hex digits are worth. -/
inductive Hex : List Int → Int → Prop
  | nil : Hex [] 0
  | snoc {l : List Int} {v d x : Int} : Hex l v → hexd d = some x → Hex (l ++ [d]) (v * 16 + x)
/-- What stands behind a backslash is an escape. -/
inductive Esc : List Int → Int → List Int → Prop
  | name {c x : Int} {r : List Int} : named c = some x → Esc (c :: r) x r
  | num {c v : Int} {ds r : List Int} : 0 < long c → ds.length = long c → Hex ds v → v ≤ 1114111 → (v < 55296 ∨ 57343 < v) → Esc (c :: (ds ++ r)) v r
/-- What may not stand behind a backslash here, but as an escaped break. -/
def away : List Int → Bool
  | c :: _ => c == 10 || c == 47 || c == 39
  | [] => false
/-- A text between double quotes: what is still to come, what has been read, the white behind it, the whole value. -/
inductive Dbl : List Int → List Int → List Int → List Int → Prop
  | done {out white : List Int} : Dbl [] out white (out ++ white)
  | cut {r at' out white v : List Int} {n : Nat} : Emp r n at' → Dbl at' (out ++ white ++ feeds n) [] v → Dbl (92 :: 10 :: r) out white v
  | esc {r at' out white v : List Int} {x : Int} : away r = false → Esc r x at' → Dbl at' (out ++ white ++ [x]) [] v → Dbl (92 :: r) out white v
  | brk {r at' out white v : List Int} {n : Nat} : Emp r n at' → Dbl at' (out ++ fold n) [] v → Dbl (10 :: r) out white v
  | wht {r out white v : List Int} {c : Int} : wh c = true → Dbl r out (white ++ [c]) v → Dbl (c :: r) out white v
  | chr {r out white v : List Int} {c : Int} : wh c = false → c ≠ 10 → c ≠ 92 → c ≠ 34 → Dbl r (out ++ white ++ [c]) [] v → Dbl (c :: r) out white v
/-- A text between double quotes in which an escape that is none comes. -/
inductive Bad : List Int → Prop
  | here {r : List Int} : away r = false → (∀ x at', ¬ Esc r x at') → Bad (92 :: r)
  | cut {r at' : List Int} {n : Nat} : Emp r n at' → Bad at' → Bad (92 :: 10 :: r)
  | esc {r at' : List Int} {x : Int} : away r = false → Esc r x at' → Bad at' → Bad (92 :: r)
  | brk {r at' : List Int} {n : Nat} : Emp r n at' → Bad at' → Bad (10 :: r)
  | wht {r : List Int} {c : Int} : wh c = true → Bad r → Bad (c :: r)
  | chr {r : List Int} {c : Int} : wh c = false → c ≠ 10 → c ≠ 92 → c ≠ 34 → Bad r → Bad (c :: r)
/-- A text between single quotes. -/
inductive Sgl : List Int → List Int → List Int → List Int → Prop
  | done {out white : List Int} : Sgl [] out white (out ++ white)
  | brk {r at' out white v : List Int} {n : Nat} : Emp r n at' → Sgl at' (out ++ fold n) [] v → Sgl (10 :: r) out white v
  | wht {r out white v : List Int} {c : Int} : wh c = true → Sgl r out (white ++ [c]) v → Sgl (c :: r) out white v
  | two {r out white v : List Int} : Sgl r (out ++ white ++ [39]) [] v → Sgl (39 :: 39 :: r) out white v
  | chr {r out white v : List Int} {c : Int} : wh c = false → c ≠ 10 → c ≠ 39 → Sgl r (out ++ white ++ [c]) [] v → Sgl (c :: r) out white v
/-- Before a character that is not white the white has been read. -/
theorem Dbl.flush {c : Int} {r out white v : List Int} (h : Dbl (c :: r) out white v) (hc : wh c = false) (h10 : c ≠ 10) : Dbl (c :: r) (out ++ white) [] v := by
  cases h with
  | cut h1 h2 => exact .cut h1 (by simpa using h2)
  | esc h0 h1 h2 => exact .esc h0 h1 (by simpa using h2)
  | brk h1 h2 => exact absurd rfl h10
  | wht h1 h2 => rw [hc] at h1; cases h1
  | chr h1 h2 h3 h4 h5 => exact .chr h1 h2 h3 h4 (by simpa using h5)
theorem Sgl.flush {c : Int} {r out white v : List Int} (h : Sgl (c :: r) out white v) (hc : wh c = false) (h10 : c ≠ 10) : Sgl (c :: r) (out ++ white) [] v := by
  cases h with
  | brk h1 h2 => exact absurd rfl h10
  | wht h1 h2 => rw [hc] at h1; cases h1
  | two h1 => exact .two (by simpa using h1)
  | chr h1 h2 h3 h4 => exact .chr h1 h2 h3 (by simpa using h4)
theorem wh_ne {c : Int} (h : wh c = true) : c ≠ 10 ∧ c ≠ 92 ∧ c ≠ 34 ∧ c ≠ 39 := by
  unfold wh at h
  simp at h
  omega
/-- White is gone over. -/
theorem Dbl.white {c : Int} {r out white v : List Int} (h : Dbl (c :: r) out white v) (hc : wh c = true) : Dbl r out (white ++ [c]) v := by
  have hn := wh_ne hc
  cases h with
  | cut h1 h2 => exact absurd rfl hn.2.1
  | esc h0 h1 h2 => exact absurd rfl hn.2.1
  | brk h1 h2 => exact absurd rfl hn.1
  | wht h1 h2 => exact h2
  | chr h1 h2 h3 h4 h5 => rw [hc] at h1; cases h1
theorem Sgl.white {c : Int} {r out white v : List Int} (h : Sgl (c :: r) out white v) (hc : wh c = true) : Sgl r out (white ++ [c]) v := by
  have hn := wh_ne hc
  cases h with
  | brk h1 h2 => exact absurd rfl hn.1
  | wht h1 h2 => exact h2
  | two h1 => exact absurd rfl hn.2.2.2
  | chr h1 h2 h3 h4 => rw [hc] at h1; cases h1
theorem Bad.white {c : Int} {r : List Int} (h : Bad (c :: r)) (hc : wh c = true) : Bad r := by
  have hn := wh_ne hc
  cases h with
  | here h0 h1 => exact absurd rfl hn.2.1
  | cut h1 h2 => exact absurd rfl hn.2.1
  | esc h0 h1 h2 => exact absurd rfl hn.2.1
  | brk h1 h2 => exact absurd rfl hn.1
  | wht h1 h2 => exact h2
  | chr h1 h2 h3 h4 h5 => rw [hc] at h1; cases h1
/-- A break is gone over. -/
theorem Dbl.feed {r out white v : List Int} (h : Dbl (10 :: r) out white v) : ∃ n at', Emp r n at' ∧ Dbl at' (out ++ fold n) [] v := by
  cases h with
  | brk h1 h2 => exact ⟨_, _, h1, h2⟩
  | wht h1 h2 => cases h1
  | chr h1 h2 h3 h4 h5 => exact absurd rfl h2
theorem Sgl.feed {r out white v : List Int} (h : Sgl (10 :: r) out white v) : ∃ n at', Emp r n at' ∧ Sgl at' (out ++ fold n) [] v := by
  cases h with
  | brk h1 h2 => exact ⟨_, _, h1, h2⟩
  | wht h1 h2 => cases h1
  | chr h1 h2 h3 h4 => exact absurd rfl h2
theorem Bad.feed {r : List Int} (h : Bad (10 :: r)) : ∃ n at', Emp r n at' ∧ Bad at' := by
  cases h with
  | brk h1 h2 => exact ⟨_, _, h1, h2⟩
  | wht h1 h2 => cases h1
  | chr h1 h2 h3 h4 h5 => exact absurd rfl h2
/-- What stands behind empty lines is not white, and no break. -/
theorem skipW_head : ∀ (l : List Int) (c : Int) (r : List Int), skipW l = c :: r → wh c = false
  | [], c, r, h => by cases h
  | a :: l, c, r, h => by
    unfold skipW at h
    cases ha : wh a with
    | true =>
      rw [ha] at h
      exact skipW_head l c r h
    | false =>
      rw [ha] at h
      simp only [Bool.false_eq_true, if_false, List.cons.injEq] at h
      rw [← h.1]
      exact ha
theorem Emp.head {l at' : List Int} {n : Nat} (h : Emp l n at') : ∀ c r, at' = c :: r → wh c = false ∧ c ≠ 10 := by
  induction h with
  | here h1 h2 =>
    intro c r e
    exact ⟨skipW_head _ c r e, fun hc => h2 r (by rw [e, hc])⟩
  | more h1 h2 h3 ih => exact ih
/-- An escaped break is gone over. -/
theorem Dbl.esc_feed {r out white v : List Int} (h : Dbl (92 :: 10 :: r) out white v) : ∃ n at', Emp r n at' ∧ Dbl at' (out ++ white ++ feeds n) [] v := by
  cases h with
  | cut h1 h2 => exact ⟨_, _, h1, h2⟩
  | esc h0 h1 h2 => cases h0
  | wht h1 h2 => cases h1
  | chr h1 h2 h3 h4 h5 => exact absurd rfl h3
theorem Bad.esc_feed {r : List Int} (h : Bad (92 :: 10 :: r)) : ∃ n at', Emp r n at' ∧ Bad at' := by
  cases h with
  | here h0 h1 => cases h0
  | cut h1 h2 => exact ⟨_, _, h1, h2⟩
  | esc h0 h1 h2 => cases h0
  | wht h1 h2 => cases h1
  | chr h1 h2 h3 h4 h5 => exact absurd rfl h3
/-- An escape is gone over. -/
theorem Dbl.escape {r out white v : List Int} (h : Dbl (92 :: r) out white v) (h10 : ∀ t, r ≠ 10 :: t) : away r = false ∧ ∃ x at', Esc r x at' ∧ Dbl at' (out ++ white ++ [x]) [] v := by
  cases h with
  | cut h1 h2 => exact absurd rfl (h10 _)
  | esc h0 h1 h2 => exact ⟨h0, _, _, h1, h2⟩
  | wht h1 h2 => cases h1
  | chr h1 h2 h3 h4 h5 => exact absurd rfl h3
theorem Bad.escape {r : List Int} (h : Bad (92 :: r)) (h10 : ∀ t, r ≠ 10 :: t) : away r = false ∧ ((∀ x at', ¬ Esc r x at') ∨ ∃ x at', Esc r x at' ∧ Bad at') := by
  cases h with
  | here h0 h1 => exact ⟨h0, .inl h1⟩
  | cut h1 h2 => exact absurd rfl (h10 _)
  | esc h0 h1 h2 => exact ⟨h0, .inr ⟨_, _, h1, h2⟩⟩
  | wht h1 h2 => cases h1
  | chr h1 h2 h3 h4 h5 => exact absurd rfl h3
/-- Another character is gone over. -/
theorem Dbl.other {c : Int} {r out white v : List Int} (h : Dbl (c :: r) out white v) (hw : wh c = false) (h10 : c ≠ 10) (h92 : c ≠ 92) : c ≠ 34 ∧ Dbl r (out ++ white ++ [c]) [] v := by
  cases h with
  | cut h1 h2 => exact absurd rfl h92
  | esc h0 h1 h2 => exact absurd rfl h92
  | brk h1 h2 => exact absurd rfl h10
  | wht h1 h2 => rw [hw] at h1; cases h1
  | chr h1 h2 h3 h4 h5 => exact ⟨h4, h5⟩
theorem Bad.other {c : Int} {r : List Int} (h : Bad (c :: r)) (hw : wh c = false) (h10 : c ≠ 10) (h92 : c ≠ 92) : c ≠ 34 ∧ Bad r := by
  cases h with
  | here h0 h1 => exact absurd rfl h92
  | cut h1 h2 => exact absurd rfl h92
  | esc h0 h1 h2 => exact absurd rfl h92
  | brk h1 h2 => exact absurd rfl h10
  | wht h1 h2 => rw [hw] at h1; cases h1
  | chr h1 h2 h3 h4 h5 => exact ⟨h4, h5⟩
theorem Bad.not_nil (h : Bad []) : False := by cases h
theorem Sgl.other {c : Int} {r out white v : List Int} (h : Sgl (c :: r) out white v) (hw : wh c = false) (h10 : c ≠ 10) (h39 : c ≠ 39) : Sgl r (out ++ white ++ [c]) [] v := by
  cases h with
  | brk h1 h2 => exact absurd rfl h10
  | wht h1 h2 => rw [hw] at h1; cases h1
  | two h1 => exact absurd rfl h39
  | chr h1 h2 h3 h4 => exact h4
theorem Sgl.quote {r out white v : List Int} (h : Sgl (39 :: r) out white v) : ∃ t, r = 39 :: t ∧ Sgl t (out ++ white ++ [39]) [] v := by
  cases h with
  | wht h1 h2 => cases h1
  | two h1 => exact ⟨_, rfl, h1⟩
  | chr h1 h2 h3 h4 => exact absurd rfl h3
theorem Dbl.nil {out white v : List Int} (h : Dbl [] out white v) : v = out ++ white := by
  cases h
  rfl
theorem Sgl.nil {out white v : List Int} (h : Sgl [] out white v) : v = out ++ white := by
  cases h
  rfl
theorem hex_snoc {l : List Int} {v : Int} (h : Hex l v) : ∀ a d, l = a ++ [d] → ∃ w x, Hex a w ∧ hexd d = some x ∧ v = w * 16 + x := by
  intro a d e
  cases h with
  | nil =>
    have := congrArg List.length e
    simp at this
  | snoc h1 h2 =>
    obtain ⟨e1, e2⟩ := List.append_inj' e rfl
    obtain rfl := e1
    simp only [List.cons.injEq, and_true] at e2
    subst e2
    exact ⟨_, _, h1, h2, rfl⟩
/-- A letter that has a number behind it is no escape by itself. -/
theorem named_long {c x : Int} (h : named c = some x) : long c = 0 := by
  by_cases h1 : c = 120
  · subst h1
    revert h
    simp [named]
  by_cases h2 : c = 117
  · subst h2
    revert h
    simp [named]
  by_cases h3 : c = 85
  · subst h3
    revert h
    simp [named]
  unfold long
  rw [if_neg h1, if_neg h2, if_neg h3]
end Go.Proofs.YtocbbekciphjgaaDoor.Qd
/- QdB -/
/- Characters in UTF-8, and where they stand in a text: plain laws. -/
namespace Go.Proofs.YtocbbekciphjgaaDoor.Rdp
/-- A character in UTF-8. -/
def u8 (c : Int) : List Int :=
  if c < 128 then [c] else if c < 2048 then [192 + c / 64, 128 + c % 64] else if c < 65536 then [224 + c / 4096, 128 + c / 64 % 64, 128 + c % 64] else [240 + c / 262144, 128 + c / 4096 % 64, 128 + c / 64 % 64, 128 + c % 64]
/-- Characters in UTF-8. -/
def us : List Int → List Int
  | [] => []
  | c :: l => u8 c ++ us l
theorem us_app (a b : List Int) : us (a ++ b) = us a ++ us b := by
  induction a with
  | nil => rfl
  | cons c l ih => show u8 c ++ us (l ++ b) = u8 c ++ us l ++ us b; rw [ih, List.append_assoc]
theorem us_one {c : Int} (h : c < 128) : us [c] = [c] := by
  show u8 c ++ [] = _
  unfold u8
  rw [if_pos h]
  rfl
theorem us_snoc {l : List Int} {c : Int} (h : c < 128) : us (l ++ [c]) = us l ++ [c] := by rw [us_app, us_one h]
/-- A character that may stand in such a text. -/
def Ch (c : Int) : Prop := c = 9 ∨ c = 10 ∨ (32 ≤ c ∧ c ≤ 126) ∨ (160 ≤ c ∧ c ≤ 55295 ∧ c ≠ 8232 ∧ c ≠ 8233) ∨ (57344 ≤ c ∧ c ≤ 65533 ∧ c ≠ 65279) ∨ (65536 ≤ c ∧ c ≤ 1114111)
theorem Ch.range {c : Int} (h : Ch c) : 9 ≤ c ∧ c ≤ 1114111 := by unfold Ch at h; omega
theorem u8_1 {c : Int} (h : c < 128) : u8 c = [c] := by unfold u8; rw [if_pos h]
theorem u8_2 {c : Int} (h : 128 ≤ c) (h2 : c < 2048) : u8 c = [192 + c / 64, 128 + c % 64] := by unfold u8; rw [if_neg (by omega), if_pos h2]
theorem u8_3 {c : Int} (h : 2048 ≤ c) (h2 : c < 65536) : u8 c = [224 + c / 4096, 128 + c / 64 % 64, 128 + c % 64] := by unfold u8; rw [if_neg (by omega), if_neg (by omega), if_pos h2]
theorem u8_4 {c : Int} (h : 65536 ≤ c) : u8 c = [240 + c / 262144, 128 + c / 4096 % 64, 128 + c / 64 % 64, 128 + c % 64] := by unfold u8; rw [if_neg (by omega), if_neg (by omega), if_neg (by omega)]
theorem ok2_of {c : Int} (h : Ch c) (h1 : 128 ≤ c) (h2 : c < 2048) : Ok2 (192 + c / 64) (128 + c % 64) ∧ (192 + c / 64 = 194 → 160 ≤ 128 + c % 64) := by unfold Ch at h; unfold Ok2; omega
theorem ok3_of {c : Int} (h : Ch c) (h1 : 2048 ≤ c) (h2 : c < 65536) : Ok3 (224 + c / 4096) (128 + c / 64 % 64) (128 + c % 64) ∧ (224 + c / 4096 = 226 → 128 + c / 64 % 64 = 128 → 128 + c % 64 ≠ 168 ∧ 128 + c % 64 ≠ 169) := by
  unfold Ch at h
  unfold Ok3
  omega
theorem ok4_of {c : Int} (h : Ch c) (h1 : 65536 ≤ c) : Ok4 (240 + c / 262144) (128 + c / 4096 % 64) (128 + c / 64 % 64) (128 + c % 64) := by
  unfold Ch at h
  unfold Ok4
  omega
theorem u8_pos (c : Int) : 1 ≤ (u8 c).length ∧ (u8 c).length ≤ 4 := by
  unfold u8
  repeat' split
  all_goals simp
theorem u8_ne (c : Int) : u8 c ≠ [] := by
  intro h
  have := u8_pos c
  rw [h] at this
  simp at this
/-- The bytes of a character. -/
theorem u8_byte {c : Int} (h : 0 ≤ c ∧ c ≤ 1114111) : ∀ x ∈ u8 c, 0 ≤ x ∧ x < 256 := by
  unfold u8
  repeat' split
  all_goals simp only [List.mem_cons, List.not_mem_nil, or_false, forall_eq_or_imp, forall_eq]
  all_goals omega
/-- From here on these characters stand. -/
def Fro (T : List Int) (c : Nat) (l : List Int) : Prop := T.drop c = us l ∧ c ≤ T.length
theorem Fro.s {T : List Int} {c : Nat} {l : List Int} (h : Fro T c l) (i : Nat) : S T (c + i) = (us l).getD i 0 := by
  unfold S
  rw [← h.1, List.getD_eq_getElem?_getD, List.getD_eq_getElem?_getD, List.getElem?_drop]
theorem Fro.s0 {T : List Int} {c : Nat} {l : List Int} (h : Fro T c l) : S T c = (us l).getD 0 0 := h.s 0
theorem Fro.len {T : List Int} {c : Nat} {l : List Int} (h : Fro T c l) : T.length = c + (us l).length := by
  have := congrArg List.length h.1
  rw [List.length_drop] at this
  have := h.2
  omega
theorem Fro.on {T : List Int} {c : Nat} {x : Int} {l : List Int} (h : Fro T c (x :: l)) : Fro T (c + (u8 x).length) l := by
  refine ⟨?_, ?_⟩
  · rw [← List.drop_drop, h.1]
    show (u8 x ++ us l).drop _ = _
    rw [List.drop_left]
  · have := h.len
    have e : (us (x :: l)).length = (u8 x).length + (us l).length := by show (u8 x ++ us l).length = _; rw [List.length_append]
    omega
theorem getD_left {a b : List Int} {i : Nat} (h : i < a.length) : (a ++ b).getD i 0 = a.getD i 0 := by
  rw [List.getD_eq_getElem?_getD, List.getD_eq_getElem?_getD, List.getElem?_append_left h]
theorem Fro.byte {T : List Int} {c : Nat} {x : Int} {l : List Int} (h : Fro T c (x :: l)) (i : Nat) (hi : i < (u8 x).length) : S T (c + i) = (u8 x).getD i 0 := by
  rw [h.s i]
  exact getD_left hi
/-- What a character's bytes are, and how wide it is. -/
theorem Fro.ok {T : List Int} {c : Nat} {x : Int} {l : List Int} (h : Fro T c (x :: l)) (hx : Ch x) :
    (x < 128 ∧ S T c = x ∧ Ok1 (S T c) ∧ (u8 x).length = 1) ∨ (128 ≤ x ∧ Ok2 (S T c) (S T (c + 1)) ∧ (S T c = 194 → 160 ≤ S T (c + 1)) ∧ (u8 x).length = 2) ∨
    (128 ≤ x ∧ Ok3 (S T c) (S T (c + 1)) (S T (c + 2)) ∧ (S T c = 226 → S T (c + 1) = 128 → S T (c + 2) ≠ 168 ∧ S T (c + 2) ≠ 169) ∧ (u8 x).length = 3) ∨
    (128 ≤ x ∧ Ok4 (S T c) (S T (c + 1)) (S T (c + 2)) (S T (c + 3)) ∧ (u8 x).length = 4) := by
  have hb := h.byte
  have h0 := hb 0 (by have := u8_pos x; omega)
  rw [Nat.add_zero] at h0
  by_cases h1 : x < 128
  · refine .inl ?_
    rw [u8_1 h1] at h0 ⊢
    have h0' : S T c = x := h0
    refine ⟨h1, h0', ?_, rfl⟩
    rw [h0']
    unfold Ch at hx
    unfold Ok1
    omega
  by_cases h2 : x < 2048
  · refine .inr (.inl ?_)
    have e := u8_2 (c := x) (by omega) h2
    have b1 := hb 1 (by rw [e]; simp)
    rw [e] at h0 b1 ⊢
    have h0' : S T c = 192 + x / 64 := h0
    have b1' : S T (c + 1) = 128 + x % 64 := b1
    rw [h0', b1']
    have := ok2_of hx (by omega) h2
    exact ⟨by omega, this.1, this.2, rfl⟩
  by_cases h3 : x < 65536
  · refine .inr (.inr (.inl ?_))
    have e := u8_3 (c := x) (by omega) h3
    have b1 := hb 1 (by rw [e]; simp)
    have b2 := hb 2 (by rw [e]; simp)
    rw [e] at h0 b1 b2 ⊢
    have h0' : S T c = 224 + x / 4096 := h0
    have b1' : S T (c + 1) = 128 + x / 64 % 64 := b1
    have b2' : S T (c + 2) = 128 + x % 64 := b2
    rw [h0', b1', b2']
    have := ok3_of hx (by omega) h3
    exact ⟨by omega, this.1, this.2, rfl⟩
  · refine .inr (.inr (.inr ?_))
    have e := u8_4 (c := x) (by omega)
    have b1 := hb 1 (by rw [e]; simp)
    have b2 := hb 2 (by rw [e]; simp)
    have b3 := hb 3 (by rw [e]; simp)
    rw [e] at h0 b1 b2 b3 ⊢
    have h0' : S T c = 240 + x / 262144 := h0
    have b1' : S T (c + 1) = 128 + x / 4096 % 64 := b1
    have b2' : S T (c + 2) = 128 + x / 64 % 64 := b2
    have b3' : S T (c + 3) = 128 + x % 64 := b3
    rw [h0', b1', b2', b3']
    exact ⟨by omega, ok4_of hx (by omega), rfl⟩
theorem Fro.okAt {T : List Int} {c : Nat} {x : Int} {l : List Int} (h : Fro T c (x :: l)) (hx : Ch x) : okAt T c := by
  rcases h.ok hx with ⟨_, _, h, _⟩ | ⟨_, h, _, _⟩ | ⟨_, h, _, _⟩ | ⟨_, h, _⟩
  · exact .inl h
  · exact .inr (.inl h)
  · exact .inr (.inr (.inl h))
  · exact .inr (.inr (.inr h))
theorem Fro.cw {T : List Int} {c : Nat} {x : Int} {l : List Int} (h : Fro T c (x :: l)) (hx : Ch x) : cw (S T c) = (u8 x).length := by
  unfold Rdp.cw
  rcases h.ok hx with ⟨h1, h2, h3, h4⟩ | ⟨h1, h2, h3, h4⟩ | ⟨h1, h2, h3, h4⟩ | ⟨h1, h2, h4⟩
  · rw [if_pos (by omega), h4]
  · unfold Ok2 at h2
    rw [if_neg (by omega), if_pos (by omega), h4]
  · unfold Ok3 at h2
    rw [if_neg (by omega), if_neg (by omega), if_pos (by omega), h4]
  · unfold Ok4 at h2
    rw [if_neg (by omega), if_neg (by omega), if_neg (by omega), h4]
theorem Fro.nx {T : List Int} {c : Nat} {x : Int} {l : List Int} (h : Fro T c (x :: l)) (hx : Ch x) : nx T c = c + (u8 x).length := by
  unfold Rdp.nx
  rw [h.cw hx]
theorem Fro.next {T : List Int} {c : Nat} {x : Int} {l : List Int} (h : Fro T c (x :: l)) (hx : Ch x) : Fro T (Rdp.nx T c) l := by
  rw [h.nx hx]
  exact h.on
theorem Fro.out {T : List Int} {c : Nat} (h : Fro T c []) : c = T.length := by
  have := h.len
  simp [us] at this
  exact this.symm
theorem Fro.small {T : List Int} {c : Nat} {x : Int} {l : List Int} (h : Fro T c (x :: l)) (hx : x < 128) : S T c = x := by
  rw [h.s0]
  show (u8 x ++ us l).getD 0 0 = x
  rw [u8_1 hx]
  rfl
/-- A text of such characters can be read. -/
theorem fro_bd {l0 : List Int} (h0 : ∀ x ∈ l0, Ch x) {c : Nat} (h : Bd (us l0) c) : ∃ l, Fro (us l0) c l ∧ ∀ x ∈ l, Ch x := by
  induction h with
  | zero => exact ⟨l0, ⟨rfl, Nat.zero_le _⟩, h0⟩
  | next h1 h2 ih =>
    obtain ⟨l, h3, h4⟩ := ih
    cases l with
    | nil =>
      have := h3.out
      omega
    | cons x l => exact ⟨l, h3.next (h4 x (by simp)), fun y hy => h4 y (by simp [hy])⟩
theorem us_byte {l : List Int} (h : ∀ x ∈ l, 0 ≤ x ∧ x ≤ 1114111) : ∀ y ∈ us l, 0 ≤ y ∧ y < 256 := by
  induction l with
  | nil => intro y hy; cases hy
  | cons c l ih =>
    intro y hy
    have hy : y ∈ u8 c ++ us l := hy
    rw [List.mem_append] at hy
    rcases hy with hy | hy
    · exact u8_byte (h c (by simp)) y hy
    · exact ih (fun x hx => h x (by simp [hx])) y hy
theorem s_byte {T : List Int} (h : ∀ y ∈ T, 0 ≤ y ∧ y < 256) (i : Nat) : 0 ≤ S T i ∧ S T i < 256 := by
  unfold S
  rw [List.getD_eq_getElem?_getD]
  by_cases hi : i < T.length
  · rw [List.getElem?_eq_getElem hi]
    exact h _ (List.getElem_mem hi)
  · rw [List.getElem?_eq_none (by omega)]
    exact ⟨by decide, by decide⟩
theorem good_us {a : Int} {l : List Int} (h : ∀ x ∈ a :: l, Ch x) (ha : a < 128) : Good (us (a :: l)) := by
  refine ⟨fun c hc hlt => ?_, s_byte (us_byte fun x hx => by have := (h x hx).range; omega), fun hh => ?_⟩
  · obtain ⟨r, h1, h2⟩ := fro_bd h hc
    cases r with
    | nil =>
      have := h1.out
      omega
    | cons x r => exact ⟨h1.okAt (h2 x (by simp)), (h1.next (h2 x (by simp))).2⟩
  · have : S (us (a :: l)) 0 = a := Fro.small (l := l) ⟨rfl, Nat.zero_le _⟩ ha
    omega
end Go.Proofs.YtocbbekciphjgaaDoor.Rdp
