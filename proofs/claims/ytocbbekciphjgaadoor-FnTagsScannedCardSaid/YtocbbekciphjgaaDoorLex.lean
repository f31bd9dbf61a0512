/- A region whose operations may be taken in the order of the text: a check that is quick for regions of a hundred operations. -/
import Derived.Test.YtocbbekciphjgaaDoorSp
import Derived.Deep.Quiet
namespace Go.Proofs.YtocbbekciphjgaaDoor.Sp
open Go
/-- All that an operation waits for lies ahead of it. -/
def backL : List Oper → Nat → Bool
  | [], _ => true
  | o :: r, k => (o.after.all fun e => !Region.binds .any e || decide (e.on < k)) && backL r (k + 1)
/-- Of two operations the second waits for the first, or they are apart. -/
def pairsL (ops : Array Oper) : List Oper → Nat → Bool
  | [], _ => true
  | o :: r, i => (r.all fun y => (y.after.any fun e => Region.binds .any e && e.on == i) || o.apart ops y) && pairsL ops r (i + 1)
theorem backL_at : ∀ (l : List Oper) (k : Nat), backL l k = true → ∀ (j : Nat) (o : Oper), l[j]? = some o → (o.after.all fun e => !Region.binds .any e || decide (e.on < k + j)) = true := by
  intro l
  induction l with
  | nil => intro k _ j o h; simp at h
  | cons x r ih =>
    intro k h j o hj
    simp only [backL, Bool.and_eq_true] at h
    cases j with
    | zero =>
      simp at hj
      subst hj
      exact h.1
    | succ j =>
      have := ih (k + 1) h.2 j o (by simpa using hj)
      rw [show k + 1 + j = k + (j + 1) by omega] at this
      exact this
theorem pairsL_at (ops : Array Oper) : ∀ (l : List Oper) (k : Nat), pairsL ops l k = true → ∀ (i j : Nat) (x y : Oper), i < j → l[i]? = some x → l[j]? = some y → ((y.after.any fun e => Region.binds .any e && e.on == k + i) || x.apart ops y) = true := by
  intro l
  induction l with
  | nil => intro k _ i j x y _ h; simp at h
  | cons z r ih =>
    intro k h i j x y hij hi hj
    simp only [pairsL, Bool.and_eq_true] at h
    cases j with
    | zero => omega
    | succ j =>
      have hj' : r[j]? = some y := by simpa using hj
      cases i with
      | zero =>
        simp at hi
        subst hi
        rw [List.all_eq_true] at h
        exact h.1 y (List.mem_of_getElem? hj')
      | succ i =>
        have := ih (k + 1) h.2 i j x y (by omega) (by simpa using hi) hj'
        rw [show k + 1 + i = k + (i + 1) by omega] at this
        exact this
theorem lexFrom_quick (ops : Array Oper) (hb : backL ops.toList 0 = true) (hp : pairsL ops ops.toList 0 = true) : ∀ (fuel k : Nat) (listed : Array Bool), k + fuel = ops.size → listed.size = ops.size → (∀ j x, j < ops.size → listed.getD j x = decide (j < k)) → Region.lexFrom .any ops fuel k listed = true := by
  intro fuel
  induction fuel with
  | zero =>
    intro k listed hk hs hl
    simp only [Region.lexFrom, List.isEmpty_iff]
    unfold Region.ready
    rw [List.filter_eq_nil_iff]
    intro i hi
    have hi' : i < ops.size := by simpa using hi
    rw [hl i true hi']
    simp
    omega
  | succ fuel ih =>
    intro k listed hk hs hl
    have hkl : k < ops.size := by omega
    obtain ⟨o, ho⟩ : ∃ o, ops[k]? = some o := ⟨_, Array.getElem?_eq_getElem hkl⟩
    have hoL : ops.toList[k]? = some o := by rw [Array.getElem?_toList]; exact ho
    simp only [Region.lexFrom, Bool.and_eq_true]
    refine ⟨⟨?_, ?_⟩, ih (k + 1) _ (by omega) (by simpa using hs) fun j x hj => ?_⟩
    · rw [List.contains_iff_mem]
      unfold Region.ready
      rw [List.mem_filter]
      refine ⟨by simpa using hkl, ?_⟩
      rw [hl k true hkl, ho]
      simp only [Nat.lt_irrefl, decide_false, Bool.not_false, Bool.true_and, Option.map_some, Option.getD_some]
      have := backL_at ops.toList 0 hb k o hoL
      rw [Nat.zero_add] at this
      rw [Array.all_eq_true_iff_forall_mem] at this ⊢
      intro e he
      have h1 := this e he
      rw [Bool.or_eq_true] at h1 ⊢
      rcases h1 with h1 | h1
      · exact .inl h1
      · right
        have h2 := of_decide_eq_true h1
        rw [hl e.on false (by omega)]
        exact h1
    · unfold Region.free
      rw [ho]
      simp only [List.all_eq_true, List.mem_range]
      intro j hj
      by_cases hjk : j = k
      · simp [hjk]
      · rw [hl j true hj]
        by_cases hlt : j < k
        · simp [hlt]
        · obtain ⟨y, hy⟩ : ∃ y, ops[j]? = some y := ⟨_, Array.getElem?_eq_getElem hj⟩
          have := pairsL_at ops ops.toList 0 hp k j o y (by omega) hoL (by rw [Array.getElem?_toList]; exact hy)
          rw [Nat.zero_add] at this
          rw [hy]
          simp only [this, Bool.or_true]
    · rw [Array.getD_eq_getD_getElem?]
      by_cases hjk : j = k
      · subst hjk
        rw [Array.getElem?_setIfInBounds_self_of_lt (by omega)]
        simp
      · rw [Array.getElem?_setIfInBounds_ne (by omega), ← Array.getD_eq_getD_getElem?, hl j x hj]
        congr 1
        simp
        omega
/-- The quick check. -/
def quickB (ops : Array Oper) : Bool := Region.noSelect ops && (backL ops.toList 0 && pairsL ops ops.toList 0)
theorem lexB_quick (ops : Array Oper) (h : quickB ops = true) : Region.lexB .any ops = true := by
  unfold quickB at h
  simp only [Bool.and_eq_true] at h
  unfold Region.lexB
  rw [Bool.and_eq_true]
  refine ⟨h.1, lexFrom_quick ops h.2.1 h.2.2 ops.size 0 _ (by omega) (by simp) fun j x hj => ?_⟩
  rw [Array.getD_eq_getD_getElem?]
  simp [hj]
end Go.Proofs.YtocbbekciphjgaaDoor.Sp
