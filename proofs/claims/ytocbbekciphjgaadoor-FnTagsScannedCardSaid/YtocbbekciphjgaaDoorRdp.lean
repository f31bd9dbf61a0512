/- Texts in UTF-8, read character by character: plain laws, with no program in sight. -/
namespace Go.Proofs.YtocbbekciphjgaaDoor.Rdp
/-- The text's bytes, noughts behind it. -/
def S (T : List Int) (i : Nat) : Int := T.getD i 0
/-- How many bytes a character has, by its first one. -/
def cw (b : Int) : Nat := if b < 128 then 1 else if b < 224 then 2 else if b < 240 then 3 else 4
/-- Where the next character begins. -/
def nx (T : List Int) (c : Nat) : Nat := c + cw (S T c)
/-- Where one is n characters on. -/
def adv (T : List Int) (c : Nat) : Nat → Nat
  | 0 => c
  | n + 1 => nx T (adv T c n)
/-- A character begins here. -/
inductive Bd (T : List Int) : Nat → Prop
  | zero : Bd T 0
  | next {c : Nat} : Bd T c → c < T.length → Bd T (nx T c)
def Ok1 (a : Int) : Prop := a = 9 ∨ a = 10 ∨ a = 13 ∨ (32 ≤ a ∧ a ≤ 126)
def Ok2 (a b : Int) : Prop := 194 ≤ a ∧ a ≤ 223 ∧ 128 ≤ b ∧ b ≤ 191 ∧ (a = 194 → b = 133 ∨ 160 ≤ b)
def Ok3 (a b c : Int) : Prop := 224 ≤ a ∧ a ≤ 239 ∧ 128 ≤ b ∧ b ≤ 191 ∧ 128 ≤ c ∧ c ≤ 191 ∧ (a = 224 → 160 ≤ b) ∧ (a = 237 → b ≤ 159) ∧ (a = 239 → b = 191 → c ≤ 189)
def Ok4 (a b c d : Int) : Prop := 240 ≤ a ∧ a ≤ 244 ∧ 128 ≤ b ∧ b ≤ 191 ∧ 128 ≤ c ∧ c ≤ 191 ∧ 128 ≤ d ∧ d ≤ 191 ∧ (a = 240 → 144 ≤ b) ∧ (a = 244 → b ≤ 143)
/-- A character that may stand in a text. -/
def okAt (T : List Int) (c : Nat) : Prop := Ok1 (S T c) ∨ Ok2 (S T c) (S T (c + 1)) ∨ Ok3 (S T c) (S T (c + 1)) (S T (c + 2)) ∨ Ok4 (S T c) (S T (c + 1)) (S T (c + 2)) (S T (c + 3))
/-- A text of such characters, without a byte order mark. -/
structure Good (T : List Int) : Prop where
  chars : ∀ c, Bd T c → c < T.length → okAt T c ∧ nx T c ≤ T.length
  bytes : ∀ i, 0 ≤ S T i ∧ S T i < 256
  mark : ¬ (S T 0 = 239 ∧ S T 1 = 187 ∧ S T 2 = 191)
theorem S_out {T : List Int} {i : Nat} (h : T.length ≤ i) : S T i = 0 := by
  unfold S
  rw [List.getD_eq_getElem?_getD, List.getElem?_eq_none h]
  rfl
theorem cw_pos (b : Int) : 1 ≤ cw b ∧ cw b ≤ 4 := by
  unfold cw
  split
  · omega
  · split
    · omega
    · split <;> omega
theorem nx_lt (T : List Int) (c : Nat) : c < nx T c ∧ nx T c ≤ c + 4 := by
  have := cw_pos (S T c)
  unfold nx
  omega
theorem nx_out {T : List Int} {c : Nat} (h : T.length ≤ c) : nx T c = c + 1 := by
  unfold nx
  rw [S_out h]
  rfl
theorem adv_front (T : List Int) : ∀ (n c : Nat), adv T c (n + 1) = adv T (nx T c) n := by
  intro n
  induction n with
  | zero => intro c; rfl
  | succ n ih =>
    intro c
    show nx T (adv T c (n + 1)) = nx T (adv T (nx T c) n)
    rw [ih]
theorem adv_add (T : List Int) (c a : Nat) : ∀ b, adv T c (a + b) = adv T (adv T c a) b := by
  intro b
  induction b with
  | zero => rfl
  | succ b ih =>
    show nx T (adv T c (a + b)) = nx T (adv T (adv T c a) b)
    rw [ih]
theorem adv_le (T : List Int) (c : Nat) : ∀ n, c + n ≤ adv T c n ∧ adv T c n ≤ c + 4 * n := by
  intro n
  induction n with
  | zero => exact ⟨Nat.le_refl _, Nat.le_refl _⟩
  | succ n ih =>
    have := nx_lt T (adv T c n)
    show _ ≤ nx T (adv T c n) ∧ nx T (adv T c n) ≤ _
    omega
theorem adv_mono (T : List Int) (c : Nat) {a b : Nat} (h : a ≤ b) : adv T c a ≤ adv T c b := by
  obtain ⟨d, rfl⟩ : ∃ d, b = a + d := ⟨b - a, by omega⟩
  rw [adv_add]
  have := (adv_le T (adv T c a) d).1
  omega
theorem adv_out {T : List Int} {c : Nat} (h : T.length ≤ c) : ∀ n, adv T c n = c + n := by
  intro n
  induction n with
  | zero => rfl
  | succ n ih =>
    show nx T (adv T c n) = _
    rw [nx_out (by omega), ih]
    omega
theorem Bd.adv {T : List Int} {c : Nat} (h : Bd T c) : ∀ n, Rdp.adv T c n ≤ T.length → Bd T (Rdp.adv T c n) := by
  intro n
  induction n with
  | zero => intro _; exact h
  | succ n ih =>
    intro hn
    have h1 := nx_lt T (Rdp.adv T c n)
    have h2 : nx T (Rdp.adv T c n) ≤ T.length := hn
    exact .next (ih (by omega)) (by omega)
theorem Bd.le {T : List Int} (hG : Good T) {c : Nat} (h : Bd T c) : c ≤ T.length := by
  cases h with
  | zero => omega
  | next h1 h2 => exact (hG.chars _ h1 h2).2
/-- A text in ASCII is one of such characters. -/
theorem good_ascii {T : List Int} (h : ∀ i, i < T.length → Ok1 (S T i)) : Good T := by
  have hb : ∀ i, 0 ≤ S T i ∧ S T i < 128 := by
    intro i
    by_cases hi : i < T.length
    · have := h i hi
      unfold Ok1 at this
      omega
    · rw [S_out (by omega)]
      omega
  refine ⟨fun c _ hc => ⟨.inl (h c hc), ?_⟩, fun i => ?_, fun hh => ?_⟩
  · unfold nx cw
    rw [if_pos (hb c).2]
    omega
  · have := hb i
    omega
  · have := hb 0
    omega
theorem ok_cw {T : List Int} {c : Nat} (h : okAt T c) : (Ok1 (S T c) ∧ nx T c = c + 1) ∨ (Ok2 (S T c) (S T (c + 1)) ∧ nx T c = c + 2) ∨ (Ok3 (S T c) (S T (c + 1)) (S T (c + 2)) ∧ nx T c = c + 3) ∨ (Ok4 (S T c) (S T (c + 1)) (S T (c + 2)) (S T (c + 3)) ∧ nx T c = c + 4) := by
  unfold nx cw
  rcases h with h | h | h | h
  · refine .inl ⟨h, ?_⟩
    unfold Ok1 at h
    rw [if_pos (by omega)]
  · refine .inr (.inl ⟨h, ?_⟩)
    unfold Ok2 at h
    rw [if_neg (by omega), if_pos (by omega)]
  · refine .inr (.inr (.inl ⟨h, ?_⟩))
    unfold Ok3 at h
    rw [if_neg (by omega), if_neg (by omega), if_pos (by omega)]
  · refine .inr (.inr (.inr ⟨h, ?_⟩))
    unfold Ok4 at h
    rw [if_neg (by omega), if_neg (by omega), if_neg (by omega)]
end Go.Proofs.YtocbbekciphjgaaDoor.Rdp
