/- Inv, Sp: parts of the proof, one behind another. -/
import Derived.Orders
import Derived.WalkKit
/- Inv -/
/- A region that draws its order, walked by an invariant over what has been carried out: no condition but the invariant's own steps. -/
namespace Go.Proofs.YtocbbekciphjgaaDoor.Inv
open Go
section
variable {P : Program} {md : Region.Mode} {ops : Array Oper} {Q : Exit → Act → World → Prop}
/-- How many are still to come. -/
def left (ops : Array Oper) (listed : Array Bool) : Nat := (List.range ops.size).countP fun i => !listed.getD i true
theorem ready_nil_of_left {listed : Array Bool} (h : left ops listed = 0) : Region.ready md ops listed = [] := by
  unfold left at h
  rw [List.countP_eq_zero] at h
  unfold Region.ready
  rw [List.filter_eq_nil_iff]
  intro i hi
  have := h i hi
  simp at this
  simp [this]
theorem not_listed {listed : Array Bool} {i : Nat} (h : i ∈ Region.ready md ops listed) : i < ops.size ∧ listed.getD i true = false := by
  unfold Region.ready at h
  rw [List.mem_filter] at h
  obtain ⟨h1, h2⟩ := h
  simp at h1 h2
  exact ⟨h1, by simpa using h2.1⟩
theorem countP_set (listed : Array Bool) (i : Nat) (hi : listed.getD i true = false) (hs : i < listed.size) :
    ∀ n, (List.range n).countP (fun j => !(listed.setIfInBounds i true).getD j true) + (if i < n then 1 else 0) = (List.range n).countP (fun j => !listed.getD j true) := by
  intro n
  induction n with
  | zero => simp
  | succ n ih =>
    rw [List.range_succ, List.countP_append, List.countP_append]
    simp only [List.countP_singleton]
    by_cases e : n = i
    · subst e
      have h1 : (listed.setIfInBounds n true).getD n true = true := by simp [Array.getD, hs]
      rw [h1, hi]
      simp at ih ⊢
      omega
    · have h1 : (listed.setIfInBounds i true).getD n true = listed.getD n true := by
        simp only [Array.getD_eq_getD_getElem?]
        rw [Array.getElem?_setIfInBounds_ne (by omega)]
      rw [h1]
      have e2 : (if i < n + 1 then 1 else 0) = (if i < n then 1 else 0 : Nat) := by
        by_cases h : i < n
        · rw [if_pos h, if_pos (show i < n + 1 by omega)]
        · rw [if_neg h, if_neg (show ¬ i < n + 1 by omega)]
      rw [e2]
      omega
theorem wpAny_inv (J : Array Bool → Act → World → Prop)
    (hstep : ∀ listed a w, listed.size = ops.size → J listed a w → ∀ i ∈ Region.ready md ops listed, wpOp P ops Q i (J (listed.setIfInBounds i true)) a w)
    (hdone : ∀ listed a w, listed.size = ops.size → J listed a w → Region.ready md ops listed = [] → Q .normal a w) :
    ∀ fuel listed a w, listed.size = ops.size → left ops listed ≤ fuel → J listed a w → wpAny P md ops Q fuel listed a w := by
  intro fuel
  induction fuel with
  | zero =>
    intro listed a w hs hl hJ
    have hr : Region.ready md ops listed = [] := ready_nil_of_left (by omega)
    exact ⟨hr, hdone listed a w hs hJ hr⟩
  | succ fuel ih =>
    intro listed a w hs hl hJ
    refine ⟨fun hr => hdone listed a w hs hJ hr, fun i hi => ?_⟩
    obtain ⟨h1, h2⟩ := not_listed hi
    have hc := countP_set listed i h2 (by omega) ops.size
    rw [if_pos h1] at hc
    refine wpOp_mono (fun a' w' h => ih _ a' w' (by simpa using hs) ?_ h) (hstep listed a w hs hJ i hi)
    unfold left at hl ⊢
    omega
theorem wp_region_inv {id : Nat} {a : Act} {w : World} (hm : P.follows .mixedOrders = true) (J : Array Bool → Act → World → Prop)
    (h0 : J (Array.replicate ops.size false) a { w with drawn := w.drawn + 1 })
    (hstep : ∀ listed a w, listed.size = ops.size → J listed a w → ∀ i ∈ Region.ready .any ops listed, wpOp P ops Q i (J (listed.setIfInBounds i true)) a w)
    (hdone : ∀ listed a w, listed.size = ops.size → J listed a w → Region.ready .any ops listed = [] → Q .normal a w) : (Code.region id ops true).wp P Q a w := by
  refine wp_region_any hm (wpAny_inv J hstep hdone _ _ _ _ (by simp) ?_ h0)
  unfold left
  exact Nat.le_trans List.countP_le_length (by simp)
end
end Go.Proofs.YtocbbekciphjgaaDoor.Inv
/- Sp -/
/- A region that draws its order, by what each operation leaves: no condition but each operation's own. -/
namespace Go.Proofs.YtocbbekciphjgaaDoor.Sp
open Go Go.Proofs.YtocbbekciphjgaaDoor.Inv
set_option linter.unusedVariables false
/-- Where an operation leaves its value. -/
def dstOf (ops : Array Oper) (i : Nat) : Option Tmp := (ops[i]?).bind (·.dst)
/-- What an operation waits for, at once. -/
def direct (ops : Array Oper) (k : Nat) : List Nat := ((ops[k]?).map fun o => o.after.toList.filterMap fun e => if Region.binds .any e then some e.on else none).getD []
def mkT (ops : Array Oper) : List (List Nat) := (List.range ops.size).foldl (fun T k => T ++ [(direct ops k ++ (direct ops k).flatMap fun m => T.getD m []).eraseDups]) []
/-- A table of all that an operation waits for. -/
def okT (ops : Array Oper) (T : List (List Nat)) : Bool := (List.range ops.size).all fun k => (T.getD k []).all fun j => (direct ops k).contains j || (direct ops k).any fun m => decide (m < k) && (T.getD m []).contains j
def backB (ops : Array Oper) : Bool := (List.range ops.size).all fun k => (direct ops k).all fun j => decide (j < k)
def dstsOk (ops : Array Oper) : Bool := (List.range ops.size).all fun i => (List.range ops.size).all fun j => i == j || (dstOf ops i).isNone || !(dstOf ops i == dstOf ops j)
def outB (ops : Array Oper) (T : List (List Nat)) (i : Nat) (t : Nat) : Bool := (List.range ops.size).all fun k => !(dstOf ops k == some t) || k == i || (T.getD k []).contains i
def fitsB (ops : Array Oper) (n : Nat) : Bool := ops.all fun o => match o.dst with | some d => decide (d < n) | none => true
/-- The frame when all has been carried out. -/
def setAll (val : Nat → Value) : List Oper → Nat → Array Value → Array Value
  | [], _, t => t
  | o :: r, i, t => setAll val r (i + 1) (match o.dst with | some d => t.setIfInBounds d (val i) | none => t)
/-- The frame when operation i comes up. -/
structure Fr (ops : Array Oper) (T : List (List Nat)) (S : Nat → Value → World → Prop) (a0 : Act) (i : Nat) (a : Act) (w : World) : Prop where
  defers : a.defers = a0.defers
  size : a.tmps.size = a0.tmps.size
  out : ∀ t, outB ops T i t = true → a.tmps.getD t undef = a0.tmps.getD t undef
  dep : ∀ j, (T.getD i []).contains j = true → ∃ v, S j v w ∧ ∀ d, dstOf ops j = some d → a.tmps.getD d undef = v
theorem Fr.val {ops : Array Oper} {T : List (List Nat)} {S : Nat → Value → World → Prop} {a0 a : Act} {i : Nat} {w : World} (h : Fr ops T S a0 i a w) (j d : Nat) (hj : (T.getD i []).contains j = true) (hd : dstOf ops j = some d) : S j (a.tmps.getD d undef) w := by
  obtain ⟨v, h1, h2⟩ := h.dep j hj
  rw [h2 d hd]
  exact h1
theorem Fr.world {ops : Array Oper} {T : List (List Nat)} {S : Nat → Value → World → Prop} {a0 a : Act} {i : Nat} {w : World} (h : Fr ops T S a0 i a w) (j : Nat) (hj : (T.getD i []).contains j = true) : ∃ v, S j v w := by
  obtain ⟨v, h1, _⟩ := h.dep j hj
  exact ⟨v, h1⟩
structure Jn (ops : Array Oper) (S : Nat → Value → World → Prop) (I : (Nat → Bool) → World → Prop) (a0 : Act) (l : Array Bool) (a : Act) (w : World) : Prop where
  defers : a.defers = a0.defers
  size : a.tmps.size = a0.tmps.size
  world : I (fun k => l.getD k false) w
  out : ∀ t, (∀ k, dstOf ops k = some t → l.getD k true = false) → a.tmps.getD t undef = a0.tmps.getD t undef
  val : ∀ k, k < ops.size → l.getD k true = true → ∃ v, S k v w ∧ ∀ d, dstOf ops k = some d → a.tmps.getD d undef = v
  closed : ∀ k, k < ops.size → l.getD k true = true → ∀ j ∈ direct ops k, l.getD j false = true
theorem getD_put_same {a : Act} {d : Nat} (v : Value) (h : d < a.tmps.size) : (a.put (some d) v).tmps.getD d undef = v := by
  simp [Act.put, Array.getD_eq_getD_getElem?, Array.getElem?_setIfInBounds_self_of_lt h]
theorem getD_put_ne {a : Act} {d k : Nat} (v : Value) (h : d ≠ k) : (a.put (some d) v).tmps.getD k undef = a.tmps.getD k undef := by
  simp [Act.put, Array.getD_eq_getD_getElem?, Array.getElem?_setIfInBounds_ne h]
theorem put_size (a : Act) (d : Option Tmp) (v : Value) : (a.put d v).tmps.size = a.tmps.size := by
  cases d <;> simp [Act.put]
theorem put_defers (a : Act) (d : Option Tmp) (v : Value) : (a.put d v).defers = a.defers := by
  cases d <;> simp [Act.put]
theorem dst_lt {ops : Array Oper} {i : Nat} {d : Tmp} (h : dstOf ops i = some d) : i < ops.size := by
  unfold dstOf at h
  cases e : ops[i]? with
  | none => rw [e] at h; cases h
  | some o => exact (Array.getElem?_eq_some_iff.1 e).1
theorem dst_ne {ops : Array Oper} (h : dstsOk ops = true) {i j : Nat} {d : Tmp} (hi : dstOf ops i = some d) (hj : dstOf ops j = some d) : i = j := by
  have h1 := dst_lt hi
  have h2 := dst_lt hj
  unfold dstsOk at h
  rw [List.all_eq_true] at h
  have h := h i (by simpa using h1)
  rw [List.all_eq_true] at h
  have h := h j (by simpa using h2)
  simp only [Bool.or_eq_true, beq_iff_eq] at h
  rcases h with (h | h) | h
  · exact h
  · rw [hi] at h; cases h
  · rw [hi, hj] at h; simp at h
theorem fits_lt {ops : Array Oper} {n : Nat} (h : fitsB ops n = true) {i : Nat} {d : Tmp} (hi : dstOf ops i = some d) : d < n := by
  unfold dstOf at hi
  cases e : ops[i]? with
  | none => rw [e] at hi; cases hi
  | some o =>
    rw [e] at hi
    obtain ⟨h1, h2⟩ := Array.getElem?_eq_some_iff.1 e
    unfold fitsB at h
    rw [Array.all_eq_true] at h
    have := h i h1
    rw [h2] at this
    have hi : o.dst = some d := hi
    rw [hi] at this
    simpa using this
theorem table {ops : Array Oper} {T : List (List Nat)} (hT : okT ops T = true) {l : Array Bool} (hs : l.size = ops.size) (hc : ∀ k, k < ops.size → l.getD k true = true → ∀ j ∈ direct ops k, l.getD j false = true) :
    ∀ k, k < ops.size → l.getD k true = true → ∀ j, (T.getD k []).contains j = true → l.getD j false = true := by
  intro k
  induction k using Nat.strongRecOn with
  | _ k ih =>
    intro hk hl j hj
    unfold okT at hT
    rw [List.all_eq_true] at hT
    have h := hT k (by simpa using hk)
    rw [List.all_eq_true] at h
    have h := h j (by simpa using hj)
    rw [Bool.or_eq_true] at h
    rcases h with h | h
    · exact hc k hk hl j (by simpa using h)
    · rw [List.any_eq_true] at h
      obtain ⟨m, hm, h⟩ := h
      rw [Bool.and_eq_true] at h
      obtain ⟨h1, h2⟩ := h
      have h1 : m < k := by simpa using h1
      have hlm := hc k hk hl m hm
      refine ih m h1 (by omega) ?_ j h2
      rw [Array.getD_eq_getD_getElem?] at hlm ⊢
      rw [Array.getElem?_eq_getElem (by omega)] at hlm ⊢
      exact hlm
theorem getD_tf {l : Array Bool} {k : Nat} (h : k < l.size) : l.getD k true = l.getD k false := by
  rw [Array.getD_eq_getD_getElem?, Array.getD_eq_getD_getElem?, Array.getElem?_eq_getElem h]
  rfl
theorem direct_ready {ops : Array Oper} {l : Array Bool} {k : Nat} (hk : k < ops.size) (hl : l.getD k true = false) (h : ∀ j ∈ direct ops k, l.getD j false = true) : k ∈ Region.ready .any ops l := by
  unfold Region.ready
  rw [List.mem_filter]
  refine ⟨by simpa using hk, ?_⟩
  rw [Bool.and_eq_true]
  refine ⟨by rw [hl]; rfl, ?_⟩
  unfold direct at h
  rw [Array.getElem?_eq_getElem hk] at h ⊢
  simp only [Option.map_some, Option.getD_some] at h ⊢
  rw [Array.all_eq_true_iff_forall_mem]
  intro ed hed
  by_cases hb : Region.binds .any ed = true
  · have := h ed.on (by rw [List.mem_filterMap]; exact ⟨ed, by simpa using hed, by rw [if_pos hb]⟩)
    rw [this, Bool.or_true]
  · simp [hb]
theorem ready_ne {ops : Array Oper} {l : Array Bool} (hb : backB ops = true) (hs : l.size = ops.size) (hr : Region.ready .any ops l = []) (k : Nat) (hk : k < ops.size) (hl : l.getD k true = false) (ih : ∀ m, m < k → m < ops.size → l.getD m true = true) : False := by
  have := direct_ready hk hl fun j hj => by
    unfold backB at hb
    rw [List.all_eq_true] at hb
    have h := hb k (by simpa using hk)
    rw [List.all_eq_true] at h
    have h := h j hj
    have h : j < k := by simpa using h
    rw [← getD_tf (by omega)]
    exact ih j h (by omega)
  rw [hr] at this
  cases this
theorem set_get (l : Array Bool) (i k : Nat) (d : Bool) (h : k < l.size) : (l.setIfInBounds i true).getD k d = if i = k then true else l.getD k d := by
  rw [Array.getD_eq_getD_getElem?, Array.getD_eq_getD_getElem?]
  by_cases e : i = k
  · subst e
    rw [if_pos rfl, Array.getElem?_setIfInBounds_self_of_lt h]
    rfl
  · rw [if_neg e, Array.getElem?_setIfInBounds_ne e]
theorem set_all (l : Array Bool) (i k : Nat) (hi : i < l.size) : (l.setIfInBounds i true).getD k false = (k == i || l.getD k false) := by
  by_cases hk : k < l.size
  · rw [set_get _ _ _ _ hk]
    by_cases e : i = k
    · subst e; simp
    · have : (k == i) = false := by simpa using fun h => e h.symm
      rw [if_neg e, this, Bool.false_or]
  · have : (k == i) = false := by simp; omega
    rw [this, Bool.false_or, Array.getD_eq_getD_getElem?, Array.getD_eq_getD_getElem?, Array.getElem?_eq_none (by simp; omega), Array.getElem?_eq_none (by omega)]
theorem setAll_size (val : Nat → Value) : ∀ (l : List Oper) (i : Nat) (t : Array Value), (setAll val l i t).size = t.size := by
  intro l
  induction l with
  | nil => intro i t; rfl
  | cons o r ih =>
    intro i t
    simp only [setAll]
    rw [ih]
    cases o.dst <;> simp
theorem setAll_get (val : Nat → Value) (A : Array Value) : ∀ (l : List Oper) (i : Nat) (t : Array Value), (∀ k o d, l[k]? = some o → o.dst = some d → val (i + k) = A.getD d undef) →
    ∀ x, x < t.size → (t.getD x undef = A.getD x undef ∨ ∃ (k : Nat) (o : Oper), l[k]? = some o ∧ o.dst = some x) → (setAll val l i t).getD x undef = A.getD x undef := by
  intro l
  induction l with
  | nil =>
    intro i t _ x _ h
    rcases h with h | ⟨k, o, h, _⟩
    · exact h
    · cases h
  | cons o r ih =>
    intro i t hv x hx h
    simp only [setAll]
    refine ih (i + 1) _ (fun k o' d h1 h2 => by have := hv (k + 1) o' d (by simpa using h1) h2; rw [← this]; congr 1; omega) x ?_ ?_
    · cases o.dst <;> simpa using hx
    · by_cases e : o.dst = some x
      · left
        rw [e]
        have := hv 0 o x rfl e
        simp only [Nat.add_zero] at this
        simp only
        rw [this]
        rw [Array.getD_eq_getD_getElem?, Array.getElem?_setIfInBounds_self_of_lt hx]
        rfl
      · rcases h with h | ⟨k, o', h1, h2⟩
        · left
          cases hd : o.dst with
          | none => exact h
          | some d =>
            simp only
            rw [Array.getD_eq_getD_getElem?, Array.getElem?_setIfInBounds_ne (by intro hh; subst hh; exact e hd), ← Array.getD_eq_getD_getElem?]
            exact h
        · right
          cases k with
          | zero => simp at h1; subst h1; exact absurd h2 e
          | succ k => exact ⟨k, o', by simpa using h1, h2⟩
section
variable {P : Program} {ops : Array Oper} {Q : Exit → Act → World → Prop}
/-- What is to be shown of an operation. -/
def Post (ops : Array Oper) (S : Nat → Value → World → Prop) (I : World → Prop) (R : World → World → Prop) (i : Nat) (a : Act) (w : World) (a' : Act) (w' : World) : Prop := ∃ v, a' = a.put (dstOf ops i) v ∧ I w' ∧ R w w' ∧ S i v w'
theorem sp_value {S : Nat → Value → World → Prop} {I : World → Prop} {R : World → World → Prop} {i : Nat} {a : Act} {w w' : World} {o : Oper} {v : Value} (ho : ops[i]? = some o) (hw : Region.wanted o (yielded ops a.tmps) = true)
    (hx : (execOp a.eval o).run P w = .ok (.value v) w') (hI : I w') (hR : R w w') (hS : S i v w') : wpOp P ops Q i (Post ops S I R i a w) a w := by
  unfold wpOp
  rw [ho]
  simp only [hw, if_true]
  left
  unfold Oper.wp
  rw [hx, Oper.upon_value]
  exact ⟨v, by unfold dstOf; rw [ho]; rfl, hI, hR, hS⟩
theorem sp_store {S : Nat → Value → World → Prop} {I : World → Prop} {R : World → World → Prop} {i : Nat} {a : Act} {w w' : World} {o : Oper} (ho : ops[i]? = some o) (hw : Region.wanted o (yielded ops a.tmps) = true)
    (hx : (execOp a.eval o).run P w = .ok .skip w') (hI : I w') (hR : R w w') (hS : S i undef w') : wpOp P ops Q i (Post ops S I R i a w) a w := by
  unfold wpOp
  rw [ho]
  simp only [hw, if_true]
  left
  unfold Oper.wp
  rw [hx, Oper.upon_skip]
  exact ⟨undef, by unfold dstOf; rw [ho]; rfl, hI, hR, hS⟩
theorem sp_off {S : Nat → Value → World → Prop} {I : World → Prop} {R : World → World → Prop} {i : Nat} {a : Act} {w : World} {o : Oper} (ho : ops[i]? = some o) (hw : Region.wanted o (yielded ops a.tmps) = false)
    (hI : I w) (hR : R w w) (hS : S i undef w) : wpOp P ops Q i (Post ops S I R i a w) a w := by
  unfold wpOp
  rw [ho]
  simp only [hw]
  exact ⟨undef, by unfold dstOf; rw [ho]; rfl, hI, hR, hS⟩
theorem enters_ {f : FuncId} {fn : Func} (hf : P.funcs[f]? = some fn) (hname : (fn.name == "runtime.NumGoroutine") = false) (hb : fn.body.isSome = true) (args : Array Value) (w : World) : (callFunc f args).run P w = .ok (.enter f args) w := by
  have h1 : fn.name ≠ "runtime.NumGoroutine" := by simpa using hname
  obtain ⟨c, hc⟩ := Option.isSome_iff_exists.1 hb
  simp [callFunc, hf, h1, hc]
theorem sp_call {S : Nat → Value → World → Prop} {I : World → Prop} {R : World → World → Prop} {i : Nat} {a : Act} {w : World} {o : Oper} {f : FuncId} {fn : Func} {as : Array Operand} {ts : Array TypeId} (hf : P.funcs[f]? = some fn) (hname : (fn.name == "runtime.NumGoroutine") = false) (hb : fn.body.isSome = true)
    (args : Array Value) (ho : ops[i]? = some o) (hw : Region.wanted o (yielded ops a.tmps) = true) (hop : o.op = .call { callee := .value (.func f), args := as, argTypes := ts }) (hargs : as.map a.eval = args)
    (h : Calls P f args w fun e w' => ∃ v, e = .returned v ∧ I w' ∧ R w w' ∧ S i v w') : wpOp P ops Q i (Post ops S I R i a w) a w := by
  have he := enters_ hf hname hb args w
  have hrun : (execOp a.eval o).run P w = .ok (.enter f args) w := by
    unfold execOp
    simp [hop, resolve, Deferred.ofValue, invoke, Act.eval, hargs, he]
  unfold wpOp
  rw [ho]
  simp only [hw, if_true]
  left
  unfold Oper.wp
  rw [hrun, Oper.upon_enter]
  refine h.mono fun e w'' hh => ?_
  obtain ⟨v, rfl, h1, h2, h3⟩ := hh
  exact ⟨v, by unfold dstOf; rw [ho]; rfl, h1, h2, h3⟩
theorem sp_callv {S : Nat → Value → World → Prop} {I : World → Prop} {R : World → World → Prop} {i : Nat} {a : Act} {w : World} {o : Oper} {x : Operand} {f : FuncId} {fn : Func} {as : Array Operand} {ts : Array TypeId} (hf : P.funcs[f]? = some fn) (hname : (fn.name == "runtime.NumGoroutine") = false) (hb : fn.body.isSome = true)
    (args : Array Value) (ho : ops[i]? = some o) (hw : Region.wanted o (yielded ops a.tmps) = true) (hop : o.op = .call { callee := .value x, args := as, argTypes := ts }) (hx : a.eval x = .func (.func f) #[] #[]) (hargs : as.map a.eval = args)
    (h : Calls P f args w fun e w' => ∃ v, e = .returned v ∧ I w' ∧ R w w' ∧ S i v w') : wpOp P ops Q i (Post ops S I R i a w) a w := by
  have he := enters_ hf hname hb args w
  have hrun : (execOp a.eval o).run P w = .ok (.enter f args) w := by
    unfold execOp
    simp [hop, resolve, Deferred.ofValue, invoke, hx, hargs, he]
  unfold wpOp
  rw [ho]
  simp only [hw, if_true]
  left
  unfold Oper.wp
  rw [hrun, Oper.upon_enter]
  refine h.mono fun e w'' hh => ?_
  obtain ⟨v, rfl, h1, h2, h3⟩ := hh
  exact ⟨v, by unfold dstOf; rw [ho]; rfl, h1, h2, h3⟩
theorem wanted_none {o : Oper} {a : Act} (h : o.guard = none) : Region.wanted o (yielded ops a.tmps) = true := by
  unfold Region.wanted
  rw [h]
theorem wanted_some {o : Oper} {a : Act} {j d : Nat} {b c : Bool} (h : o.guard = some (j, b)) (hd : dstOf ops j = some d) (hv : a.tmps.getD d undef = .bool c) : Region.wanted o (yielded ops a.tmps) = (c == b) := by
  unfold Region.wanted
  rw [h]
  have e : yielded ops a.tmps j = some c := by
    unfold yielded
    unfold dstOf at hd
    rw [hd]
    simp only [Option.bind_some]
    rw [Array.getD_eq_getD_getElem?] at hv
    cases h : a.tmps[d]? with
    | none => rw [h] at hv; simp [undef] at hv
    | some v =>
      rw [h] at hv
      simp at hv
      rw [hv]
  simp only [e]
  cases c <;> cases b <;> rfl
theorem wanted_on {o : Oper} {a : Act} (j d : Nat) {b : Bool} (h : o.guard = some (j, b)) (hd : dstOf ops j = some d) (hv : a.tmps.getD d undef = .bool b) : Region.wanted o (yielded ops a.tmps) = true := by
  rw [wanted_some h hd hv]
  simp
theorem wanted_off {o : Oper} {a : Act} (j d : Nat) {b c : Bool} (h : o.guard = some (j, b)) (hd : dstOf ops j = some d) (hv : a.tmps.getD d undef = .bool c) (hc : (c == b) = false) : Region.wanted o (yielded ops a.tmps) = false := by
  rw [wanted_some h hd hv]
  exact hc
theorem gd {a : Array Value} {n : Nat} {v : Value} (h : a.getD n undef = v) : a[n]?.getD undef = v := by rw [← Array.getD_eq_getD_getElem?]; exact h
theorem wp_region_specs_c {id : Nat} {a0 : Act} {w0 : World} (hm : P.follows .mixedOrders = true) (T : List (List Nat)) (n : Nat) (hT : okT ops T = true) (hk : backB ops = true) (hd : dstsOk ops = true) (hn : a0.tmps.size = n) (hf : fitsB ops n = true)
    (S : Nat → Value → World → Prop) (I : (Nat → Bool) → World → Prop) (R : World → World → Prop) (h0 : I (fun _ => false) w0.drew) (hmono : ∀ i v w w', R w w' → S i v w → S i v w')
    (hstep : ∀ i, i < ops.size → ∀ L a w, (∀ k, k < ops.size → L k = true → ∀ j, (T.getD k []).contains j = true → L j = true) → L i = false → Fr ops T S a0 i a w → I L w → wpOp P ops Q i (Post ops S (I (fun k => k == i || L k)) R i a w) a w)
    (hdone : ∀ (val : Nat → Value) (L : Nat → Bool) (w : World), (∀ k, k < ops.size → L k = true) → I L w → (∀ i, i < ops.size → S i (val i) w) → Q .normal ⟨setAll val ops.toList 0 a0.tmps, a0.defers⟩ w) : (Code.region id ops true).wp P Q a0 w0 := by
  subst hn
  refine wp_region_inv hm (Jn ops S I a0) ?_ ?_ ?_
  · refine ⟨rfl, rfl, by rw [show (fun k => (Array.replicate ops.size false).getD k false) = fun _ => false from funext fun k => by rw [Array.getD_eq_getD_getElem?]; by_cases h : k < ops.size; (rw [Array.getElem?_eq_getElem (by simpa using h)]; simp); (rw [Array.getElem?_eq_none (by simpa using h)]; rfl)]; exact h0, fun _ _ => rfl, fun k hk h => ?_, fun k hk h => ?_⟩
    all_goals
      rw [Array.getD_eq_getD_getElem?, Array.getElem?_eq_getElem (by simpa using hk)] at h
      simp at h
  · intro l a w hs hJ i hi
    obtain ⟨hlt, hnl⟩ := not_listed hi
    have hrd : ∀ j ∈ direct ops i, l.getD j false = true := by
      intro j hj
      have h := (mem_ready (md := .any) (ops := ops) (j := i) (listed := l)).1 hi
      unfold Region.ready at hi
      rw [List.mem_filter] at hi
      have h2 := hi.2
      rw [Bool.and_eq_true] at h2
      have h2 := h2.2
      unfold direct at hj
      cases e : ops[i]? with
      | none => rw [e] at hj; cases hj
      | some o =>
        rw [e] at hj h2
        simp only [Option.map_some, Option.getD_some] at hj h2
        rw [List.mem_filterMap] at hj
        obtain ⟨ed, h3, h4⟩ := hj
        have h5 : ed ∈ o.after := by simpa using h3
        rw [Array.all_eq_true_iff_forall_mem] at h2
        have h6 := h2 ed h5
        by_cases hb : Region.binds .any ed = true
        · rw [if_pos hb] at h4
          simp only [Option.some.injEq] at h4
          subst h4
          rw [hb] at h6
          simpa using h6
        · rw [if_neg hb] at h4
          cases h4
    have hall : ∀ j, (T.getD i []).contains j = true → l.getD j false = true := by
      intro j hj
      have hTi := hT
      unfold okT at hTi
      rw [List.all_eq_true] at hTi
      have h := hTi i (by simpa using hlt)
      rw [List.all_eq_true] at h
      have h := h j (by simpa using hj)
      rw [Bool.or_eq_true] at h
      rcases h with h | h
      · exact hrd j (by simpa using h)
      · rw [List.any_eq_true] at h
        obtain ⟨m, hm, h⟩ := h
        rw [Bool.and_eq_true] at h
        obtain ⟨h1, h2⟩ := h
        have h1 : m < i := by simpa using h1
        have hlm := hrd m hm
        refine table hT hs hJ.closed m (by omega) ?_ j h2
        rw [getD_tf (by omega)]
        exact hlm
    have hF : Fr ops T S a0 i a w := by
      refine ⟨hJ.defers, hJ.size, fun t ht => hJ.out t fun k hk => ?_, fun j hj => ?_⟩
      · have hk1 := dst_lt hk
        unfold outB at ht
        rw [List.all_eq_true] at ht
        have h := ht k (by simpa using hk1)
        rw [hk] at h
        simp only [BEq.rfl, Bool.not_true, Bool.false_or, Bool.or_eq_true, beq_iff_eq] at h
        cases e : l.getD k true with
        | false => rfl
        | true =>
          rcases h with h | h
          · subst h; rw [hnl] at e; cases e
          · have := table hT hs hJ.closed k hk1 e i h
            rw [← getD_tf (by omega), hnl] at this
            cases this
      · have h := hall j hj
        have hjl : j < ops.size := by
          by_cases hh : j < l.size
          · omega
          · rw [Array.getD_eq_getD_getElem?, Array.getElem?_eq_none (by omega)] at h
            cases h
        exact hJ.val j hjl (by rw [getD_tf (by omega)]; exact h)
    refine wpOp_mono ?_ (hstep i hlt _ a w (fun k hk hlk j hj => table hT hs hJ.closed k hk (by rw [getD_tf (by omega)]; exact hlk) j hj) (by rw [← getD_tf (by omega)]; exact hnl) hF hJ.world)
    rintro a' w' ⟨v, rfl, hI, hR, hS⟩
    refine ⟨by rw [put_defers]; exact hJ.defers, by rw [put_size]; exact hJ.size, by rw [show (fun k => (l.setIfInBounds i true).getD k false) = fun k => k == i || l.getD k false from funext fun k => set_all l i k (by omega)]; exact hI, ?_, ?_, ?_⟩
    · intro t ht
      have hti : dstOf ops i ≠ some t := by
        intro h
        have := ht i h
        rw [set_get _ _ _ _ (by omega), if_pos rfl] at this
        cases this
      have h1 : (a.put (dstOf ops i) v).tmps.getD t undef = a.tmps.getD t undef := by
        cases e : dstOf ops i with
        | none => rfl
        | some d => exact getD_put_ne v (by intro hh; subst hh; exact hti e)
      rw [h1]
      refine hJ.out t fun k hk => ?_
      have := ht k hk
      have hk1 := dst_lt hk
      rw [set_get _ _ _ _ (by omega)] at this
      by_cases e : i = k
      · rw [if_pos e] at this; cases this
      · rw [if_neg e] at this; exact this
    · intro k hk hlk
      rw [set_get _ _ _ _ (by omega)] at hlk
      by_cases e : i = k
      · subst e
        refine ⟨v, hS, fun d hd' => ?_⟩
        rw [hd']
        exact getD_put_same v (by rw [hJ.size]; exact fits_lt hf hd')
      · rw [if_neg e] at hlk
        obtain ⟨u, h1, h2⟩ := hJ.val k hk hlk
        refine ⟨u, hmono _ _ _ _ hR h1, fun d hd' => ?_⟩
        rw [← h2 d hd']
        cases e' : dstOf ops i with
        | none => rfl
        | some d' => exact getD_put_ne v (by intro hh; subst hh; exact e (dst_ne hd e' hd'))
    · intro k hk hlk j hj
      have hjl : j = i ∨ l.getD j false = true := by
        rw [set_get _ _ _ _ (by omega)] at hlk
        by_cases e : i = k
        · subst e; exact .inr (hrd j hj)
        · rw [if_neg e] at hlk; exact .inr (hJ.closed k hk hlk j hj)
      rcases hjl with rfl | h
      · rw [set_get _ _ _ _ (by omega), if_pos rfl]
      · have hjs : j < l.size := by
          by_cases hh : j < l.size
          · exact hh
          · rw [Array.getD_eq_getD_getElem?, Array.getElem?_eq_none (by omega)] at h
            cases h
        rw [set_get _ _ _ _ hjs]
        by_cases e : i = j
        · rw [if_pos e]
        · rw [if_neg e]; exact h
  · intro l a w hs hJ hr
    have hall : ∀ k, k < ops.size → l.getD k true = true := by
      intro k
      induction k using Nat.strongRecOn with
      | _ k ih =>
        intro hk1
        cases e : l.getD k true with
        | true => rfl
        | false =>
          exfalso
          exact ready_ne hk hs hr k hk1 e ih
    have hex : ∀ i, ∃ v, i < ops.size → S i v w ∧ ∀ d, dstOf ops i = some d → a.tmps.getD d undef = v := by
      intro i
      by_cases hi : i < ops.size
      · obtain ⟨v, h⟩ := hJ.val i hi (hall i hi)
        exact ⟨v, fun _ => h⟩
      · exact ⟨undef, fun h => absurd h hi⟩
    obtain ⟨val, hval⟩ := Classical.skolem.1 hex
    have heq : a = ⟨setAll val ops.toList 0 a0.tmps, a0.defers⟩ := by
      have h1 : a.tmps = setAll val ops.toList 0 a0.tmps := by
        refine Array.ext (by rw [setAll_size]; exact hJ.size) fun x hx1 hx2 => ?_
        have hx : x < a0.tmps.size := by rw [← hJ.size]; exact hx1
        have h2 := setAll_get val a.tmps ops.toList 0 a0.tmps ?_ x hx ?_
        · rw [Array.getD_eq_getD_getElem?, Array.getD_eq_getD_getElem?, Array.getElem?_eq_getElem hx1, Array.getElem?_eq_getElem hx2] at h2
          exact h2.symm
        · intro k o d h3 h4
          have h5 : dstOf ops k = some d := by
            unfold dstOf
            rw [← Array.getElem?_toList, h3]
            exact h4
          rw [Nat.zero_add, (hval k (dst_lt h5)).2 d h5]
        · by_cases hh : ∃ k, dstOf ops k = some x
          · right
            obtain ⟨k, hk⟩ := hh
            unfold dstOf at hk
            cases e : ops[k]? with
            | none => rw [e] at hk; cases hk
            | some o => rw [e] at hk; exact ⟨k, o, by rw [Array.getElem?_toList]; exact e, hk⟩
          · left
            exact (hJ.out x fun k hk => absurd ⟨k, hk⟩ hh).symm
      cases a
      have h2 := hJ.defers
      simp only at h1 h2
      rw [h1, h2]
    rw [heq]
    exact hdone val _ w (fun k hk => by rw [← getD_tf (by omega)]; exact hall k hk) hJ.world fun i hi => (hval i hi).1
theorem wp_region_specs_l {id : Nat} {a0 : Act} {w0 : World} (hm : P.follows .mixedOrders = true) (T : List (List Nat)) (n : Nat) (hT : okT ops T = true) (hk : backB ops = true) (hd : dstsOk ops = true) (hn : a0.tmps.size = n) (hf : fitsB ops n = true)
    (S : Nat → Value → World → Prop) (I : (Nat → Bool) → World → Prop) (R : World → World → Prop) (h0 : I (fun _ => false) w0.drew) (hmono : ∀ i v w w', R w w' → S i v w → S i v w')
    (hstep : ∀ i, i < ops.size → ∀ L a w, L i = false → Fr ops T S a0 i a w → I L w → wpOp P ops Q i (Post ops S (I (fun k => k == i || L k)) R i a w) a w)
    (hdone : ∀ (val : Nat → Value) (L : Nat → Bool) (w : World), (∀ k, k < ops.size → L k = true) → I L w → (∀ i, i < ops.size → S i (val i) w) → Q .normal ⟨setAll val ops.toList 0 a0.tmps, a0.defers⟩ w) : (Code.region id ops true).wp P Q a0 w0 :=
  wp_region_specs_c hm T n hT hk hd hn hf S I R h0 hmono (fun i hi L a w _ hL hF hI => hstep i hi L a w hL hF hI) hdone
theorem region_specs_c {id : Nat} {a0 : Act} {w0 : World} (hm : P.follows .mixedOrders = true) (n : Nat) (hT : okT ops (mkT ops) = true) (hk : backB ops = true) (hd : dstsOk ops = true) (hn : a0.tmps.size = n) (hf : fitsB ops n = true)
    (S : Nat → Value → World → Prop) (I : (Nat → Bool) → World → Prop) (R : World → World → Prop) (h0 : I (fun _ => false) w0.drew) (hmono : ∀ i v w w', R w w' → S i v w → S i v w')
    (hstep : ∀ i, i < ops.size → ∀ L a w, (∀ k, k < ops.size → L k = true → ∀ j, ((mkT ops).getD k []).contains j = true → L j = true) → L i = false → Fr ops (mkT ops) S a0 i a w → I L w → wpOp P ops Q i (Post ops S (I (fun k => k == i || L k)) R i a w) a w)
    (hdone : ∀ (val : Nat → Value) (L : Nat → Bool) (w : World), (∀ k, k < ops.size → L k = true) → I L w → (∀ i, i < ops.size → S i (val i) w) → Q .normal ⟨setAll val ops.toList 0 a0.tmps, a0.defers⟩ w) : (Code.region id ops true).wp P Q a0 w0 :=
  wp_region_specs_c hm (mkT ops) n hT hk hd hn hf S I R h0 hmono hstep hdone
theorem wp_region_specs {id : Nat} {a0 : Act} {w0 : World} (hm : P.follows .mixedOrders = true) (T : List (List Nat)) (n : Nat) (hT : okT ops T = true) (hk : backB ops = true) (hd : dstsOk ops = true) (hn : a0.tmps.size = n) (hf : fitsB ops n = true)
    (S : Nat → Value → World → Prop) (I : World → Prop) (R : World → World → Prop) (h0 : I w0.drew) (hmono : ∀ i v w w', R w w' → S i v w → S i v w')
    (hstep : ∀ i, i < ops.size → ∀ a w, Fr ops T S a0 i a w → I w → wpOp P ops Q i (Post ops S I R i a w) a w)
    (hdone : ∀ (val : Nat → Value) (w : World), I w → (∀ i, i < ops.size → S i (val i) w) → Q .normal ⟨setAll val ops.toList 0 a0.tmps, a0.defers⟩ w) : (Code.region id ops true).wp P Q a0 w0 :=
  wp_region_specs_l hm T n hT hk hd hn hf S (fun _ => I) R h0 hmono (fun i hi L a w _ hF hI => hstep i hi a w hF hI) (fun val L w _ hI hS => hdone val w hI hS)
theorem region_specs_l {id : Nat} {a0 : Act} {w0 : World} (hm : P.follows .mixedOrders = true) (n : Nat) (hT : okT ops (mkT ops) = true) (hk : backB ops = true) (hd : dstsOk ops = true) (hn : a0.tmps.size = n) (hf : fitsB ops n = true)
    (S : Nat → Value → World → Prop) (I : (Nat → Bool) → World → Prop) (R : World → World → Prop) (h0 : I (fun _ => false) w0.drew) (hmono : ∀ i v w w', R w w' → S i v w → S i v w')
    (hstep : ∀ i, i < ops.size → ∀ L a w, L i = false → Fr ops (mkT ops) S a0 i a w → I L w → wpOp P ops Q i (Post ops S (I (fun k => k == i || L k)) R i a w) a w)
    (hdone : ∀ (val : Nat → Value) (L : Nat → Bool) (w : World), (∀ k, k < ops.size → L k = true) → I L w → (∀ i, i < ops.size → S i (val i) w) → Q .normal ⟨setAll val ops.toList 0 a0.tmps, a0.defers⟩ w) : (Code.region id ops true).wp P Q a0 w0 :=
  wp_region_specs_l hm (mkT ops) n hT hk hd hn hf S I R h0 hmono hstep hdone
theorem region_specs {id : Nat} {a0 : Act} {w0 : World} (hm : P.follows .mixedOrders = true) (n : Nat) (hT : okT ops (mkT ops) = true) (hk : backB ops = true) (hd : dstsOk ops = true) (hn : a0.tmps.size = n) (hf : fitsB ops n = true)
    (S : Nat → Value → World → Prop) (I : World → Prop) (R : World → World → Prop) (h0 : I w0.drew) (hmono : ∀ i v w w', R w w' → S i v w → S i v w')
    (hstep : ∀ i, i < ops.size → ∀ a w, Fr ops (mkT ops) S a0 i a w → I w → wpOp P ops Q i (Post ops S I R i a w) a w)
    (hdone : ∀ (val : Nat → Value) (w : World), I w → (∀ i, i < ops.size → S i (val i) w) → Q .normal ⟨setAll val ops.toList 0 a0.tmps, a0.defers⟩ w) : (Code.region id ops true).wp P Q a0 w0 :=
  wp_region_specs hm (mkT ops) n hT hk hd hn hf S I R h0 hmono hstep hdone
end
end Go.Proofs.YtocbbekciphjgaaDoor.Sp
