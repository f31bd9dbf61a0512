/- QdC: parts of the proof, one behind another. -/
import Derived.Test.YtocbbekciphjgaaDoorMz7
/- QdC -/
/- A text from between quotes on, its end among it: what it says. Plain laws, with no program in sight. -/
namespace Go.Proofs.YtocbbekciphjgaaDoor.Qd
def qt (sg : Bool) : Int := if sg then 39 else 34
/-- A text from between quotes on, its end among it: what is still to come, what has been read, the white behind it, the value; none: it is an error. -/
inductive Full (sg : Bool) : List Int → List Int → List Int → Option (List Int) → Prop
  | fin {t out white : List Int} : (sg = true → ∀ r, t ≠ 39 :: r) → Full sg (qt sg :: t) out white (some (out ++ white))
  | eof {out white : List Int} : Full sg [] out white none
  | cut {r at' out white : List Int} {v : Option (List Int)} {n : Nat} : sg = false → Emp r n at' → Full sg at' (out ++ white ++ feeds n) [] v → Full sg (92 :: 10 :: r) out white v
  | esc {r at' out white : List Int} {v : Option (List Int)} {x : Int} : sg = false → away r = false → Esc r x at' → Full sg at' (out ++ white ++ [x]) [] v → Full sg (92 :: r) out white v
  | bad {r out white : List Int} : sg = false → away r = false → (∀ x at', ¬ Esc r x at') → Full sg (92 :: r) out white none
  | brk {r at' out white : List Int} {v : Option (List Int)} {n : Nat} : Emp r n at' → Full sg at' (out ++ fold n) [] v → Full sg (10 :: r) out white v
  | wht {r out white : List Int} {v : Option (List Int)} {c : Int} : wh c = true → Full sg r out (white ++ [c]) v → Full sg (c :: r) out white v
  | two {r out white : List Int} {v : Option (List Int)} : sg = true → Full sg r (out ++ white ++ [39]) [] v → Full sg (39 :: 39 :: r) out white v
  | chr {r out white : List Int} {v : Option (List Int)} {c : Int} : wh c = false → c ≠ 10 → c ≠ qt sg → (sg = false → c ≠ 92) → Full sg r (out ++ white ++ [c]) [] v → Full sg (c :: r) out white v
theorem qt_cases (sg : Bool) : qt sg = 34 ∨ qt sg = 39 := by cases sg; exact .inl rfl; exact .inr rfl
theorem skipW_app (q : Int) (t : List Int) (hq : wh q = false) : ∀ l, skipW (l ++ q :: t) = skipW l ++ q :: t
  | [] => by show skipW (q :: t) = q :: t; unfold skipW; rw [hq]; rfl
  | c :: l => by
    show skipW (c :: (l ++ q :: t)) = _
    unfold skipW
    cases hc : wh c with
    | true => exact skipW_app q t hq l
    | false => rfl
theorem marker_app (l : List Int) {q : Int} (hq : q = 34 ∨ q = 39) : marker (l ++ [q, 10]) = marker l := by
  have hw : wh q = false := by rcases hq with rfl | rfl <;> rfl
  match l with
  | [] => rfl
  | [a] => rfl
  | [a, b] =>
    show ((a == 45 || a == 46) && b == a && q == a && (wh 10 || 10 == 10)) = false
    by_cases ha : q = a
    · subst ha
      rcases hq with rfl | rfl <;> rfl
    · rw [show (q == a) = false by simpa using ha]
      simp
  | [a, b, c] =>
    show ((a == 45 || a == 46) && b == a && c == a && (wh q || q == 10)) = false
    rw [hw, show (q == 10) = false by rcases hq with rfl | rfl <;> rfl]
    simp
  | a :: b :: c :: d :: l => rfl
theorem Emp.app {l at' : List Int} {n : Nat} (h : Emp l n at') {q : Int} (hq : q = 34 ∨ q = 39) : Emp (l ++ [q, 10]) n (at' ++ [q, 10]) := by
  have hw : wh q = false := by rcases hq with rfl | rfl <;> rfl
  have hn : q ≠ 10 := by omega
  induction h with
  | here h1 h2 =>
    rw [← skipW_app q [10] hw]
    refine .here (by rw [marker_app _ hq]; exact h1) fun r e => ?_
    rw [skipW_app q [10] hw] at e
    rename_i l
    cases hs : skipW l with
    | nil =>
      rw [hs] at e
      exact hn (List.cons.inj e).1
    | cons c t =>
      rw [hs] at e
      obtain ⟨e1, e2⟩ := List.cons.inj e
      exact h2 t (by rw [hs, e1])
  | more h1 h2 h3 ih =>
    refine .more (by rw [marker_app _ hq]; exact h1) ?_ ih
    rw [skipW_app q [10] hw, h2]
    rfl
theorem Esc.app {r at' : List Int} {x : Int} (h : Esc r x at') (t : List Int) : Esc (r ++ t) x (at' ++ t) := by
  cases h with
  | name h1 => exact .name h1
  | num h1 h2 h3 h4 h5 =>
    rename_i c ds
    have := Esc.num (r := at' ++ t) h1 h2 h3 h4 h5
    rw [← List.append_assoc] at this
    exact this
theorem Esc.cons {r at' : List Int} {x : Int} (h : Esc r x at') : ∃ c t, r = c :: t := by
  cases h with
  | name h1 => exact ⟨_, _, rfl⟩
  | num h1 h2 h3 h4 h5 => exact ⟨_, _, rfl⟩
theorem Hex.mem {l : List Int} {v : Int} (h : Hex l v) : ∀ d ∈ l, ∃ x, hexd d = some x := by
  induction h with
  | nil => intro d hd; cases hd
  | snoc h1 h2 ih =>
    intro d hd
    rw [List.mem_append] at hd
    rcases hd with hd | hd
    · exact ih d hd
    · simp only [List.mem_singleton] at hd
      subst hd
      exact ⟨_, h2⟩
theorem not_esc_app {c : Int} {r : List Int} (h : ∀ x at', ¬ Esc (c :: r) x at') (q : Int) (t : List Int) (hq : hexd q = none) : ∀ x at', ¬ Esc (c :: r ++ q :: t) x at' := by
  intro x at' he
  generalize hl : c :: r ++ q :: t = l at he
  cases he with
  | name h1 =>
    rename_i c'
    have := List.cons.inj hl
    rw [← this.1] at h1
    exact h _ _ (.name h1)
  | num h1 h2 h3 h4 h5 =>
    rename_i c' ds
    obtain ⟨e1, e2⟩ := List.cons.inj hl
    have e2 : r ++ q :: t = ds ++ at' := e2
    subst e1
    by_cases hle : ds.length ≤ r.length
    · have : ds = r.take ds.length := by
        have := congrArg (List.take ds.length) e2
        rw [List.take_left, List.take_append_of_le_length hle] at this
        exact this.symm
      have hr : r = ds ++ r.drop ds.length := by
        conv => rhs; rw [this]
        simp only [List.length_take, Nat.min_eq_left hle]
        rw [List.take_append_drop]
      rw [hr] at h
      exact h _ _ (.num h1 h2 h3 h4 h5)
    · have hm : q ∈ ds := by
        have := congrArg (fun x => x[r.length]?) e2
        simp only [List.getElem?_append_right (Nat.le_refl _), Nat.sub_self, List.getElem?_cons_zero] at this
        rw [List.getElem?_append_left (by omega)] at this
        exact List.mem_of_getElem? this.symm
      obtain ⟨x, hx⟩ := h3.mem q hm
      rw [hq] at hx
      cases hx
theorem away_app {c : Int} {r t : List Int} : away (c :: r ++ t) = away (c :: r) := rfl
theorem Dbl.full {l out white v : List Int} (h : Dbl l out white v) : Full false (l ++ [34, 10]) out white (some v) := by
  induction h with
  | done => exact .fin (fun e => by cases e)
  | cut h1 h2 ih => exact .cut rfl (h1.app (.inl rfl)) ih
  | esc h0 h1 h2 ih =>
    obtain ⟨c, t, rfl⟩ := h1.cons
    exact .esc rfl h0 (h1.app _) ih
  | brk h1 h2 ih => exact .brk (h1.app (.inl rfl)) ih
  | wht h1 h2 ih => exact .wht h1 ih
  | chr h1 h2 h3 h4 h5 ih => exact .chr h1 h2 h4 (fun _ => h3) ih
theorem Bad.full {l : List Int} (h : Bad l) : ∀ out white, Full false (l ++ [34, 10]) out white none := by
  induction h with
  | here h1 h2 =>
    intro out white
    rename_i r
    cases r with
    | nil => exact .esc (x := 34) rfl rfl (.name rfl) (.brk (.here rfl (fun r e => by cases e)) .eof)
    | cons c r => exact .bad rfl h1 (not_esc_app h2 34 [10] rfl)
  | cut h1 h2 ih => exact fun out white => .cut rfl (h1.app (.inl rfl)) (ih _ _)
  | esc h0 h1 h2 ih =>
    obtain ⟨c, t, rfl⟩ := h1.cons
    exact fun out white => .esc rfl h0 (h1.app _) (ih _ _)
  | brk h1 h2 ih => exact fun out white => .brk (h1.app (.inl rfl)) (ih _ _)
  | wht h1 h2 ih => exact fun out white => .wht h1 (ih _ _)
  | chr h1 h2 h3 h4 h5 ih => exact fun out white => .chr h1 h2 h4 (fun _ => h3) (ih _ _)
theorem Sgl.full {l out white v : List Int} (h : Sgl l out white v) : Full true (l ++ [39, 10]) out white (some v) := by
  induction h with
  | done => exact .fin (fun _ r e => by cases e)
  | brk h1 h2 ih => exact .brk (h1.app (.inr rfl)) ih
  | wht h1 h2 ih => exact .wht h1 ih
  | two h1 ih => exact .two rfl ih
  | chr h1 h2 h3 h4 ih => exact .chr h1 h2 h3 (fun e => by cases e) ih
/-- Empty lines, from the midst of a line's beginning on. -/
def Emw (l : List Int) (n : Nat) (at' : List Int) : Prop := (n = 0 ∧ at' = skipW l ∧ ∀ r, skipW l ≠ 10 :: r) ∨ ∃ m r, n = m + 1 ∧ skipW l = 10 :: r ∧ Emp r m at'
theorem Emp.mid {l at' : List Int} {n : Nat} (h : Emp l n at') : marker l = false ∧ Emw l n at' := by
  cases h with
  | here h1 h2 => exact ⟨h1, .inl ⟨rfl, rfl, h2⟩⟩
  | more h1 h2 h3 => exact ⟨h1, .inr ⟨_, _, rfl, h2, h3⟩⟩
theorem skipW_wh {c : Int} {l : List Int} (hc : wh c = true) : skipW (c :: l) = skipW l := by
  conv => lhs; unfold skipW
  rw [hc]
  rfl
theorem skipW_no {c : Int} {l : List Int} (hc : wh c = false) : skipW (c :: l) = c :: l := by
  unfold skipW
  rw [hc]
  rfl
theorem Emw.wht {c : Int} {l at' : List Int} {n : Nat} (h : Emw (c :: l) n at') (hc : wh c = true) : Emw l n at' := by
  unfold Emw at *
  rw [skipW_wh hc] at h
  exact h
theorem Emw.feed {l at' : List Int} {n : Nat} (h : Emw (10 :: l) n at') : ∃ m, n = m + 1 ∧ Emp l m at' := by
  unfold Emw at h
  rw [skipW_no (c := 10) rfl] at h
  rcases h with ⟨h1, h2, h3⟩ | ⟨m, r, h1, h2, h3⟩
  · exact absurd rfl (h3 l)
  · obtain rfl := (List.cons.inj h2).2
    exact ⟨m, h1, h3⟩
theorem Emw.stop {l at' : List Int} {n : Nat} (h : Emw l n at') (hs : ∀ c r, l = c :: r → wh c = false ∧ c ≠ 10) : n = 0 ∧ at' = l := by
  have e : skipW l = l := by
    cases l with
    | nil => rfl
    | cons c r => exact skipW_no (hs c r rfl).1
  unfold Emw at h
  rw [e] at h
  rcases h with ⟨h1, h2, h3⟩ | ⟨m, r, h1, h2, h3⟩
  · exact ⟨h1, h2⟩
  · exact absurd rfl (hs 10 r h2).2
theorem wh_ne' {c : Int} {sg : Bool} (h : wh c = true) : c ≠ 10 ∧ c ≠ 92 ∧ c ≠ qt sg ∧ c ≠ 39 := by
  have := wh_ne h
  rcases qt_cases sg with e | e <;> rw [e] <;> exact ⟨this.1, this.2.1, by first | exact this.2.2.1 | exact this.2.2.2, this.2.2.2⟩
theorem wh_qt (sg : Bool) : wh (qt sg) = false := by cases sg <;> rfl
theorem Full.nil {sg : Bool} {out white : List Int} {v : Option (List Int)} (h : Full sg [] out white v) : v = none := by
  generalize hl : ([] : List Int) = l at h
  cases h <;> first | rfl | cases hl
/-- Before a character that is not white the white has been read. -/
theorem Full.flush {sg : Bool} {c : Int} {r out white : List Int} {v : Option (List Int)} (h : Full sg (c :: r) out white v) (hc : wh c = false) (h10 : c ≠ 10) : Full sg (c :: r) (out ++ white) [] v := by
  generalize hl : c :: r = l at h ⊢
  cases h with
  | fin h1 => simpa using Full.fin (out := out ++ white) (white := []) h1
  | eof => cases hl
  | cut h0 h1 h2 => exact .cut h0 h1 (by simpa using h2)
  | esc h h0 h1 h2 => exact .esc h h0 h1 (by simpa using h2)
  | bad h0 h1 h2 => exact .bad h0 h1 h2
  | brk h1 h2 => exact absurd (List.cons.inj hl).1 h10
  | wht h1 h2 => rw [← (List.cons.inj hl).1, hc] at h1; cases h1
  | two h0 h1 => exact .two h0 (by simpa using h1)
  | chr h1 h2 h3 h4 h5 => exact .chr h1 h2 h3 h4 (by simpa using h5)
/-- White is gone over. -/
theorem Full.white {sg : Bool} {c : Int} {r out white : List Int} {v : Option (List Int)} (h : Full sg (c :: r) out white v) (hc : wh c = true) : Full sg r out (white ++ [c]) v := by
  have hn := wh_ne' (sg := sg) hc
  generalize hl : c :: r = l at h
  cases h with
  | fin h1 => exact absurd (List.cons.inj hl).1 hn.2.2.1
  | eof => cases hl
  | cut h0 h1 h2 => exact absurd (List.cons.inj hl).1 hn.2.1
  | esc h h0 h1 h2 => exact absurd (List.cons.inj hl).1 hn.2.1
  | bad h0 h1 h2 => exact absurd (List.cons.inj hl).1 hn.2.1
  | brk h1 h2 => exact absurd (List.cons.inj hl).1 hn.1
  | wht h1 h2 => obtain ⟨rfl, rfl⟩ := List.cons.inj hl; exact h2
  | two h0 h1 => exact absurd (List.cons.inj hl).1 hn.2.2.2
  | chr h1 h2 h3 h4 h5 => rw [← (List.cons.inj hl).1, hc] at h1; cases h1
theorem Full.feed {sg : Bool} {r out white : List Int} {v : Option (List Int)} (h : Full sg (10 :: r) out white v) : ∃ n at', Emp r n at' ∧ Full sg at' (out ++ fold n) [] v := by
  generalize hl : 10 :: r = l at h
  cases h with
  | fin h1 => have := (List.cons.inj hl).1; rcases qt_cases sg with e | e <;> rw [e] at this <;> omega
  | eof => cases hl
  | cut h0 h1 h2 => have := (List.cons.inj hl).1; omega
  | esc h h0 h1 h2 => have := (List.cons.inj hl).1; omega
  | bad h0 h1 h2 => have := (List.cons.inj hl).1; omega
  | brk h1 h2 => obtain rfl := (List.cons.inj hl).2; exact ⟨_, _, h1, h2⟩
  | wht h1 h2 => rw [← (List.cons.inj hl).1] at h1; cases h1
  | two h0 h1 => have := (List.cons.inj hl).1; omega
  | chr h1 h2 h3 h4 h5 => exact absurd (List.cons.inj hl).1.symm h2
/-- The closing quote. -/
theorem Full.close {sg : Bool} {r out white : List Int} {v : Option (List Int)} (h : Full sg (qt sg :: r) out white v) (h2 : sg = true → ∀ t, r ≠ 39 :: t) : v = some (out ++ white) := by
  have hq : qt sg ≠ 92 ∧ qt sg ≠ 10 ∧ wh (qt sg) = false := by refine ⟨?_, ?_, wh_qt sg⟩ <;> rcases qt_cases sg with e | e <;> rw [e] <;> decide
  generalize hl : qt sg :: r = l at h
  cases h with
  | fin h1 => rfl
  | eof => cases hl
  | cut h0 h1 h2 => exact absurd (List.cons.inj hl).1 hq.1
  | esc h h0 h1 h2 => exact absurd (List.cons.inj hl).1 hq.1
  | bad h0 h1 h2 => exact absurd (List.cons.inj hl).1 hq.1
  | brk h1 h2 => exact absurd (List.cons.inj hl).1 hq.2.1
  | wht h1 h2 => rw [← (List.cons.inj hl).1, hq.2.2] at h1; cases h1
  | two h0 h1 => exact absurd (List.cons.inj hl).2 (h2 h0 _)
  | chr h1 h2 h3 h4 h5 => exact absurd (List.cons.inj hl).1.symm h3
/-- Two quotes. -/
theorem Full.twice {r out white : List Int} {v : Option (List Int)} (h : Full true (39 :: 39 :: r) out white v) : Full true r (out ++ white ++ [39]) [] v := by
  generalize hl : 39 :: 39 :: r = l at h
  cases h with
  | fin h1 => exact absurd (List.cons.inj hl).2.symm (h1 rfl r)
  | eof => cases hl
  | cut h0 h1 h2 => cases h0
  | esc h h0 h1 h2 => cases h
  | bad h0 h1 h2 => cases h0
  | brk h1 h2 => have := (List.cons.inj hl).1; omega
  | wht h1 h2 => rw [← (List.cons.inj hl).1] at h1; cases h1
  | two h0 h1 => obtain rfl := (List.cons.inj (List.cons.inj hl).2).2; exact h1
  | chr h1 h2 h3 h4 h5 => exact absurd (List.cons.inj hl).1.symm h3
/-- An escaped break. -/
theorem Full.esc_feed {r out white : List Int} {v : Option (List Int)} (h : Full false (92 :: 10 :: r) out white v) : ∃ n at', Emp r n at' ∧ Full false at' (out ++ white ++ feeds n) [] v := by
  generalize hl : 92 :: 10 :: r = l at h
  cases h with
  | fin h1 => have := (List.cons.inj hl).1; simp [qt] at this
  | eof => cases hl
  | cut h0 h1 h2 => obtain rfl := (List.cons.inj (List.cons.inj hl).2).2; exact ⟨_, _, h1, h2⟩
  | esc h h0 h1 h2 => rw [← (List.cons.inj hl).2] at h0; cases h0
  | bad h0 h1 h2 => rw [← (List.cons.inj hl).2] at h1; cases h1
  | brk h1 h2 => have := (List.cons.inj hl).1; omega
  | wht h1 h2 => rw [← (List.cons.inj hl).1] at h1; cases h1
  | two h0 h1 => cases h0
  | chr h1 h2 h3 h4 h5 => exact absurd (List.cons.inj hl).1.symm (h4 rfl)
/-- An escape. -/
theorem Full.escape {r out white : List Int} {v : Option (List Int)} (h : Full false (92 :: r) out white v) (h10 : ∀ t, r ≠ 10 :: t) : away r = false ∧ ((v = none ∧ ∀ x at', ¬ Esc r x at') ∨ ∃ x at', Esc r x at' ∧ Full false at' (out ++ white ++ [x]) [] v) := by
  generalize hl : 92 :: r = l at h
  cases h with
  | fin h1 => have := (List.cons.inj hl).1; simp [qt] at this
  | eof => cases hl
  | cut h0 h1 h2 => exact absurd (List.cons.inj hl).2 (h10 _)
  | esc h h0 h1 h2 => obtain rfl := (List.cons.inj hl).2; exact ⟨h0, .inr ⟨_, _, h1, h2⟩⟩
  | bad h0 h1 h2 => obtain rfl := (List.cons.inj hl).2; exact ⟨h1, .inl ⟨rfl, h2⟩⟩
  | brk h1 h2 => have := (List.cons.inj hl).1; omega
  | wht h1 h2 => rw [← (List.cons.inj hl).1] at h1; cases h1
  | two h0 h1 => cases h0
  | chr h1 h2 h3 h4 h5 => exact absurd (List.cons.inj hl).1.symm (h4 rfl)
/-- Another character. -/
theorem Full.other {sg : Bool} {c : Int} {r out white : List Int} {v : Option (List Int)} (h : Full sg (c :: r) out white v) (hc : wh c = false) (h10 : c ≠ 10) (hq : c ≠ qt sg) (hb : sg = false → c ≠ 92) : Full sg r (out ++ white ++ [c]) [] v := by
  generalize hl : c :: r = l at h
  cases h with
  | fin h1 => exact absurd (List.cons.inj hl).1 hq
  | eof => cases hl
  | cut h0 h1 h2 => exact absurd (List.cons.inj hl).1 (hb h0)
  | esc h h0 h1 h2 => exact absurd (List.cons.inj hl).1 (hb h)
  | bad h0 h1 h2 => exact absurd (List.cons.inj hl).1 (hb h0)
  | brk h1 h2 => exact absurd (List.cons.inj hl).1 h10
  | wht h1 h2 => rw [← (List.cons.inj hl).1, hc] at h1; cases h1
  | two h0 h1 => subst h0; exact absurd (List.cons.inj hl).1 hq
  | chr h1 h2 h3 h4 h5 => obtain ⟨rfl, rfl⟩ := List.cons.inj hl; exact h5
end Go.Proofs.YtocbbekciphjgaaDoor.Qd
