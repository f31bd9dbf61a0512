/- A region whose operations may be taken in the order of the text: a check that is linear but for the look-ups. -/
import Derived.Test.YtocbbekciphjgaaDoorLex
namespace Go.Proofs.YtocbbekciphjgaaDoor.Sp
open Go
theorem lexFrom_gen (ops : Array Oper) (hb : backL ops.toList 0 = true) (hp : ∀ (i j : Nat) (x y : Oper), i < j → ops.toList[i]? = some x → ops.toList[j]? = some y → ((y.after.any fun e => Region.binds .any e && e.on == i) || x.apart ops y) = true) : ∀ (fuel k : Nat) (listed : Array Bool), k + fuel = ops.size → listed.size = ops.size → (∀ j x, j < ops.size → listed.getD j x = decide (j < k)) → Region.lexFrom .any ops fuel k listed = true := by
  intro fuel
  induction fuel with
  | zero =>
    intro k listed hk hs hl
    simp only [Region.lexFrom, List.isEmpty_iff]
    unfold Region.ready
    rw [List.filter_eq_nil_iff]
    intro i hi
    have hi' : i < ops.size := by simpa using hi
    rw [hl i true hi']
    simp
    omega
  | succ fuel ih =>
    intro k listed hk hs hl
    have hkl : k < ops.size := by omega
    obtain ⟨o, ho⟩ : ∃ o, ops[k]? = some o := ⟨_, Array.getElem?_eq_getElem hkl⟩
    have hoL : ops.toList[k]? = some o := by rw [Array.getElem?_toList]; exact ho
    simp only [Region.lexFrom, Bool.and_eq_true]
    refine ⟨⟨?_, ?_⟩, ih (k + 1) _ (by omega) (by simpa using hs) fun j x hj => ?_⟩
    · rw [List.contains_iff_mem]
      unfold Region.ready
      rw [List.mem_filter]
      refine ⟨by simpa using hkl, ?_⟩
      rw [hl k true hkl, ho]
      simp only [Nat.lt_irrefl, decide_false, Bool.not_false, Bool.true_and, Option.map_some, Option.getD_some]
      have := backL_at ops.toList 0 hb k o hoL
      rw [Nat.zero_add] at this
      rw [Array.all_eq_true_iff_forall_mem] at this ⊢
      intro e he
      have h1 := this e he
      rw [Bool.or_eq_true] at h1 ⊢
      rcases h1 with h1 | h1
      · exact .inl h1
      · right
        have h2 := of_decide_eq_true h1
        rw [hl e.on false (by omega)]
        exact h1
    · unfold Region.free
      rw [ho]
      simp only [List.all_eq_true, List.mem_range]
      intro j hj
      by_cases hjk : j = k
      · simp [hjk]
      · rw [hl j true hj]
        by_cases hlt : j < k
        · simp [hlt]
        · obtain ⟨y, hy⟩ : ∃ y, ops[j]? = some y := ⟨_, Array.getElem?_eq_getElem hj⟩
          have := hp k j o y (by omega) hoL (by rw [Array.getElem?_toList]; exact hy)
          rw [hy]
          simp only [this, Bool.or_true]
    · rw [Array.getD_eq_getD_getElem?]
      by_cases hjk : j = k
      · subst hjk
        rw [Array.getElem?_setIfInBounds_self_of_lt (by omega)]
        simp
      · rw [Array.getElem?_setIfInBounds_ne (by omega), ← Array.getD_eq_getD_getElem?, hl j x hj]
        congr 1
        simp
        omega
/-- Each operation leaves its value behind all ahead of it, and looks at what it waits for, or at what none of them writes. -/
def chain (ops : Array Oper) (d0 : Nat) : List Oper → Nat → Bool
  | [], _ => true
  | o :: r, lb => match o.dst with
    | none => false
    | some d => decide (lb ≤ d) && ((o.looksAt ops).all fun t => decide (t < d) && (decide (t < d0) || o.after.any fun e => Region.binds .any e && dstOf ops e.on == some t)) && chain ops d0 r (d + 1)
theorem chain_at (ops : Array Oper) (d0 : Nat) : ∀ (l : List Oper) (lb : Nat), chain ops d0 l lb = true → ∀ (i : Nat) (o : Oper), l[i]? = some o → ∃ d, o.dst = some d ∧ lb ≤ d ∧ ((o.looksAt ops).all fun t => decide (t < d) && (decide (t < d0) || o.after.any fun e => Region.binds .any e && dstOf ops e.on == some t)) = true := by
  intro l
  induction l with
  | nil => intro lb _ i o h; simp at h
  | cons z r ih =>
    intro lb h i o ho
    unfold chain at h
    cases hz : z.dst with
    | none => rw [hz] at h; cases h
    | some d =>
      rw [hz] at h
      simp only [Bool.and_eq_true] at h
      obtain ⟨⟨h1, h2⟩, h3⟩ := h
      cases i with
      | zero =>
        simp at ho
        subst ho
        exact ⟨d, hz, of_decide_eq_true h1, h2⟩
      | succ i =>
        obtain ⟨d', e1, e2, e3⟩ := ih (d + 1) h3 i o (by simpa using ho)
        exact ⟨d', e1, by have := of_decide_eq_true h1; omega, e3⟩
theorem chain_inc (ops : Array Oper) (d0 : Nat) : ∀ (l : List Oper) (lb : Nat), chain ops d0 l lb = true → ∀ (i j : Nat) (x y : Oper) (dx dy : Nat), i < j → l[i]? = some x → l[j]? = some y → x.dst = some dx → y.dst = some dy → dx < dy := by
  intro l
  induction l with
  | nil => intro lb _ i j x y dx dy _ h; simp at h
  | cons z r ih =>
    intro lb h i j x y dx dy hij hi hj hx hy
    unfold chain at h
    cases hz : z.dst with
    | none => rw [hz] at h; cases h
    | some d =>
      rw [hz] at h
      simp only [Bool.and_eq_true] at h
      obtain ⟨⟨h1, h2⟩, h3⟩ := h
      cases j with
      | zero => omega
      | succ j =>
        have hj' : r[j]? = some y := by simpa using hj
        cases i with
        | zero =>
          simp at hi
          subst hi
          obtain ⟨d', e1, e2, _⟩ := chain_at ops d0 r (d + 1) h3 j y hj'
          rw [hx] at hz
          rw [hy] at e1
          obtain rfl := Option.some.inj hz
          obtain rfl := Option.some.inj e1
          omega
        | succ i => exact ih (d + 1) h3 i j x y dx dy (by omega) (by simpa using hi) hj' hx hy
/-- A check that is linear but for the look-ups. -/
def chainB (ops : Array Oper) (d0 : Nat) : Bool := Region.noSelect ops && (backL ops.toList 0 && chain ops d0 ops.toList d0)
theorem lexB_chain (ops : Array Oper) (d0 : Nat) (h : chainB ops d0 = true) : Region.lexB .any ops = true := by
  unfold chainB at h
  simp only [Bool.and_eq_true] at h
  unfold Region.lexB
  rw [Bool.and_eq_true]
  refine ⟨h.1, lexFrom_gen ops h.2.1 (fun i j x y hij hi hj => ?_) ops.size 0 _ (by omega) (by simp) fun j x hj => by rw [Array.getD_eq_getD_getElem?]; simp [hj]⟩
  obtain ⟨dx, e1, l1, a1⟩ := chain_at ops d0 _ _ h.2.2 i x hi
  obtain ⟨dy, e2, l2, a2⟩ := chain_at ops d0 _ _ h.2.2 j y hj
  have hlt := chain_inc ops d0 _ _ h.2.2 i j x y dx dy hij hi hj e1 e2
  have l1' : ∀ (i : Nat) (x : Oper) (dx : Nat), ops.toList[i]? = some x → x.dst = some dx → d0 ≤ dx := fun i x dx hi e1 => by
    obtain ⟨d', q1, q2, _⟩ := chain_at ops d0 _ _ h.2.2 i x hi
    rw [e1] at q1
    obtain rfl := Option.some.inj q1
    exact q2
  rw [List.all_eq_true] at a1 a2
  by_cases hl : dx ∈ y.looksAt ops
  · have h1 := a2 dx hl
    simp only [Bool.and_eq_true, Bool.or_eq_true, decide_eq_true_eq] at h1
    rcases h1.2 with h2 | h2
    · exact absurd h2 (Nat.not_lt.2 (l1' i x dx hi e1))
    · rw [Bool.or_eq_true]
      left
      rw [Array.any_eq_true] at h2 ⊢
      obtain ⟨m, hm, h2⟩ := h2
      refine ⟨m, hm, ?_⟩
      simp only [Bool.and_eq_true, beq_iff_eq] at h2 ⊢
      refine ⟨h2.1, ?_⟩
      have h3 := h2.2
      unfold dstOf at h3
      cases ho : ops[(y.after[m]).on]? with
      | none => rw [ho] at h3; cases h3
      | some o =>
        rw [ho] at h3
        have h4 : o.dst = some dx := h3
        have hoL : ops.toList[(y.after[m]).on]? = some o := by rw [Array.getElem?_toList]; exact ho
        rcases Nat.lt_trichotomy (y.after[m]).on i with q | q | q
        · have := chain_inc ops d0 _ _ h.2.2 _ _ o x dx dx q hoL hi h4 e1
          omega
        · exact q
        · have := chain_inc ops d0 _ _ h.2.2 _ _ x o dx dx q hi hoL e1 h4
          omega
  · rw [Bool.or_eq_true]
    right
    unfold Oper.apart
    rw [e1, e2]
    have n1 : dy ∉ x.looksAt ops := fun hh => by
      have h5 := a1 dy hh
      rw [Bool.and_eq_true] at h5
      have h6 := of_decide_eq_true h5.1
      exact absurd h6 (Nat.not_lt.2 (Nat.le_of_lt hlt))
    have n2 : dy ≠ dx := Nat.ne_of_gt hlt
    simp [hl, n1, n2]
end Go.Proofs.YtocbbekciphjgaaDoor.Sp
