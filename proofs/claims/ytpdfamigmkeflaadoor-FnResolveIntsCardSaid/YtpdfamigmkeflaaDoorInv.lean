/- A region that draws its order, walked by an invariant over what has been carried out: no condition but the invariant's own steps. -/
import Derived.Orders
namespace Go.Proofs.YtpdfamigmkeflaaDoor.Inv
open Go
section
variable {P : Program} {md : Region.Mode} {ops : Array Oper} {Q : Exit → Act → World → Prop}
/-- How many are still to come. -/
def left (ops : Array Oper) (listed : Array Bool) : Nat := (List.range ops.size).countP fun i => !listed.getD i true
theorem ready_nil_of_left {listed : Array Bool} (h : left ops listed = 0) : Region.ready md ops listed = [] := by
  unfold left at h
  rw [List.countP_eq_zero] at h
  unfold Region.ready
  rw [List.filter_eq_nil_iff]
  intro i hi
  have := h i hi
  simp at this
  simp [this]
theorem not_listed {listed : Array Bool} {i : Nat} (h : i ∈ Region.ready md ops listed) : i < ops.size ∧ listed.getD i true = false := by
  unfold Region.ready at h
  rw [List.mem_filter] at h
  obtain ⟨h1, h2⟩ := h
  simp at h1 h2
  exact ⟨h1, by simpa using h2.1⟩
theorem countP_set (listed : Array Bool) (i : Nat) (hi : listed.getD i true = false) (hs : i < listed.size) :
    ∀ n, (List.range n).countP (fun j => !(listed.setIfInBounds i true).getD j true) + (if i < n then 1 else 0) = (List.range n).countP (fun j => !listed.getD j true) := by
  intro n
  induction n with
  | zero => simp
  | succ n ih =>
    rw [List.range_succ, List.countP_append, List.countP_append]
    simp only [List.countP_singleton]
    by_cases e : n = i
    · subst e
      have h1 : (listed.setIfInBounds n true).getD n true = true := by simp [Array.getD, hs]
      rw [h1, hi]
      simp at ih ⊢
      omega
    · have h1 : (listed.setIfInBounds i true).getD n true = listed.getD n true := by
        simp only [Array.getD_eq_getD_getElem?]
        rw [Array.getElem?_setIfInBounds_ne (by omega)]
      rw [h1]
      have e2 : (if i < n + 1 then 1 else 0) = (if i < n then 1 else 0 : Nat) := by
        by_cases h : i < n
        · rw [if_pos h, if_pos (show i < n + 1 by omega)]
        · rw [if_neg h, if_neg (show ¬ i < n + 1 by omega)]
      rw [e2]
      omega
theorem wpAny_inv (J : Array Bool → Act → World → Prop)
    (hstep : ∀ listed a w, listed.size = ops.size → J listed a w → ∀ i ∈ Region.ready md ops listed, wpOp P ops Q i (J (listed.setIfInBounds i true)) a w)
    (hdone : ∀ listed a w, listed.size = ops.size → J listed a w → Region.ready md ops listed = [] → Q .normal a w) :
    ∀ fuel listed a w, listed.size = ops.size → left ops listed ≤ fuel → J listed a w → wpAny P md ops Q fuel listed a w := by
  intro fuel
  induction fuel with
  | zero =>
    intro listed a w hs hl hJ
    have hr : Region.ready md ops listed = [] := ready_nil_of_left (by omega)
    exact ⟨hr, hdone listed a w hs hJ hr⟩
  | succ fuel ih =>
    intro listed a w hs hl hJ
    refine ⟨fun hr => hdone listed a w hs hJ hr, fun i hi => ?_⟩
    obtain ⟨h1, h2⟩ := not_listed hi
    have hc := countP_set listed i h2 (by omega) ops.size
    rw [if_pos h1] at hc
    refine wpOp_mono (fun a' w' h => ih _ a' w' (by simpa using hs) ?_ h) (hstep listed a w hs hJ i hi)
    unfold left at hl ⊢
    omega
theorem wp_region_inv {id : Nat} {a : Act} {w : World} (hm : P.follows .mixedOrders = true) (J : Array Bool → Act → World → Prop)
    (h0 : J (Array.replicate ops.size false) a { w with drawn := w.drawn + 1 })
    (hstep : ∀ listed a w, listed.size = ops.size → J listed a w → ∀ i ∈ Region.ready .any ops listed, wpOp P ops Q i (J (listed.setIfInBounds i true)) a w)
    (hdone : ∀ listed a w, listed.size = ops.size → J listed a w → Region.ready .any ops listed = [] → Q .normal a w) : (Code.region id ops true).wp P Q a w := by
  refine wp_region_any hm (wpAny_inv J hstep hdone _ _ _ _ (by simp) ?_ h0)
  unfold left
  exact Nat.le_trans List.countP_le_length (by simp)
end
end Go.Proofs.YtpdfamigmkeflaaDoor.Inv
