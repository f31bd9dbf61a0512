/- Behind the loop: what is told of the value. Printed by genLnE.py. -/
import Derived.Test.YtcmnjnogdpejfaaDoorLnH
import Derived.Test.YtcmnjnogdpejfaaDoorEmB
namespace Go.Proofs.YtcmnjnogdpejfaaDoor.Ln
open Go.RowKit
set_option linter.unusedVariables false
set_option linter.unusedSimpArgs false
noncomputable def cB : Code := Tryd.f23.body.getD .skip
theorem cB_some : Tryd.f23.body = some cB := by kernel_rfl
noncomputable def c24 : Code := part [1, 1, 1, 1, 1, 1, 1, 1, 1, 1, 1, 1, 1, 1, 1, 1, 1, 1, 0] cB
noncomputable def cR : Code := part [1, 1, 1, 1, 1, 1, 1, 1, 1, 1, 1, 1, 1, 1, 1, 1, 1, 1, 1] cB
noncomputable def c27 : Code := part [0] cR
noncomputable def c28 : Code := part [1, 0, 0] cR
noncomputable def cT : Code := part [1, 1] cR
theorem cR_eq : cR = .seq c27 (.seq (.seq c28 (.block 0 (.loop lB))) cT) := by kernel_rfl
noncomputable def cT0 : Code := part [0] cT
noncomputable def cT1 : Code := part [1, 0] cT
noncomputable def cT2 : Code := part [1, 1, 0] cT
noncomputable def cT3 : Code := part [1, 1, 1, 0] cT
noncomputable def cT4 : Code := part [1, 1, 1, 1, 0] cT
noncomputable def cT5 : Code := part [1, 1, 1, 1, 1, 0] cT
noncomputable def cT6 : Code := part [1, 1, 1, 1, 1, 1, 0] cT
noncomputable def cT7 : Code := part [1, 1, 1, 1, 1, 1, 1, 0] cT
noncomputable def cT8 : Code := part [1, 1, 1, 1, 1, 1, 1, 1, 0] cT
noncomputable def cT9 : Code := part [1, 1, 1, 1, 1, 1, 1, 1, 1, 0] cT
noncomputable def cT10 : Code := part [1, 1, 1, 1, 1, 1, 1, 1, 1, 1, 0] cT
noncomputable def cT11 : Code := part [1, 1, 1, 1, 1, 1, 1, 1, 1, 1, 1, 0] cT
noncomputable def cT12 : Code := part [1, 1, 1, 1, 1, 1, 1, 1, 1, 1, 1, 1, 0] cT
noncomputable def cTe : Code := part [1, 1, 1, 1, 1, 1, 1, 1, 1, 1, 1, 1, 1] cT
theorem cT_eq : cT = .seq cT0 (.seq cT1 (.seq cT2 (.seq cT3 (.seq cT4 (.seq cT5 (.seq cT6 (.seq cT7 (.seq cT8 (.seq cT9 (.seq cT10 (.seq cT11 (.seq cT12 cTe)))))))))))) := by kernel_rfl
theorem ext_set {p : Nat} (w : World) (k : Nat) (v : Value) : Em.Ext p w (w.setCell ⟨p, k, none⟩ v) :=
  ⟨rfl, rfl, rfl, by simp [World.setCell], fun j hj hp => Below.heap_setCell _ _ _ _ hp⟩
/-- The other marks of an analysis are Booleans. -/
def Scd (p : Nat) (w : World) : Prop := ∀ k, 40 ≤ k → k ≤ 43 → ∃ x, w.cell? ⟨p, k, none⟩ = some (.bool x)
theorem Scd.set {p : Nat} {w : World} (h : Scd p w) (k : Nat) (x : Bool) : Scd p (w.setCell ⟨p, k, none⟩ (.bool x)) := fun j h1 h2 => by
  obtain ⟨y, hy⟩ := h j h1 h2
  by_cases e : k = j
  · subst e
    exact ⟨x, by first | (simp [hy]; done) | go_cell⟩
  · exact ⟨y, by rw [World.cell?_setCell_other _ _ _ _ (by intro e2; simp only [Addr.mk.injEq] at e2; omega)]; exact hy⟩
theorem Scd.set_off {p : Nat} {w : World} (h : Scd p w) (k : Nat) (v : Value) (hk : k < 40) : Scd p (w.setCell ⟨p, k, none⟩ v) := fun j h1 h2 => by
  obtain ⟨y, hy⟩ := h j h1 h2
  exact ⟨y, by rw [World.cell?_setCell_other _ _ _ _ (by intro e2; simp only [Addr.mk.injEq] at e2; omega)]; exact hy⟩
/-- The emitter behind the loop, when told whether there are line breaks. -/
structure Aft (p : Nat) (M : Bool) (w0 w : World) : Prop where
  ext : Em.Ext p w0 w
  there : w.there p 0 55
  c39 : w.cell? ⟨p, 39, none⟩ = some (.bool M)
  fl : Scd p w
theorem Aft.set {p : Nat} {M : Bool} {w0 w : World} (h : Aft p M w0 w) (k : Nat) (x : Bool) (hk : k ≠ 39) : Aft p M w0 (w.setCell ⟨p, k, none⟩ (.bool x)) :=
  ⟨h.ext.trans (ext_set _ _ _), Em.there_setCell h.there _ _, by rw [World.cell?_setCell_other _ _ _ _ (by intro e; simp only [Addr.mk.injEq] at e; omega)]; exact h.c39, h.fl.set _ _⟩
theorem at_there {w : World} {p : Nat} (h : w.there p 0 55) (k : Nat) (hk : k < 55) : (∃ v, w.cell? ⟨p, k, none⟩ = some v) ∧ w.frozen? ⟨p, k, none⟩ = false := by
  obtain ⟨h1, h2⟩ := h k hk
  rw [Nat.zero_add] at h1 h2
  exact ⟨Option.isSome_iff_exists.1 h1, h2⟩
set_option maxHeartbeats 32000000 in
set_option maxRecDepth 100000 in
theorem ct0 {p b n cp i : Nat} {wv : Value} {lb : Bool} {a : Act} {w0 w : World} {K : Act → World → Prop} {Q : Exit → Act → World → Prop} (hI : In p b n cp i wv lb a) (hX : Em.Ext p w0 w) (hth : w.there p 0 55) (hfl : Scd p w)
    (hK : ∀ a' w', In p b n cp i wv lb a' → Aft p lb w0 w' → K a' w') : cT0.wp Tryd.prog (Exit.then K Q) a w := by
  obtain ⟨⟨c39, hc39⟩, hf39⟩ := at_there hth 39 (by decide)
  have HX := Lib.hid hX
  have HT := Lib.hid hth
  have HF := Lib.hid hfl
  clear hX hth hfl
  obtain ⟨v5, e5⟩ := hI.f5
  obtain ⟨v6, e6⟩ := hI.f6
  obtain ⟨v8, e8⟩ := hI.f8
  obtain ⟨v9, e9⟩ := hI.f9
  obtain ⟨v10, e10⟩ := hI.f10
  obtain ⟨v11, e11⟩ := hI.f11
  obtain ⟨v12, e12⟩ := hI.f12
  obtain ⟨v13, e13⟩ := hI.f13
  obtain ⟨v14, e14⟩ := hI.f14
  obtain ⟨v15, e15⟩ := hI.f15
  obtain ⟨v16, e16⟩ := hI.f16
  obtain ⟨v17, e17⟩ := hI.f17
  obtain ⟨v18, e18⟩ := hI.f18
  obtain ⟨v19, e19⟩ := hI.f19
  rw [lit321 a hI.size hI.defers, hI.s0, hI.s1, hI.s7, hI.s20, hI.s21, e5, e6, e8, e9, e10, e11, e12, e13, e14, e15, e16, e17, e18, e19]
  clear e5 e6 e8 e9 e10 e11 e12 e13 e14 e15 e16 e17 e18 e19
  have HKK := Lib.hid hK
  clear hK hI
  conv => arg 2; whnf
  try simp only [List.append]
  go_wp2_with fail
  exact HKK.out _ _ ⟨rfl, rfl, rfl, rfl, rfl, rfl, rfl, ⟨_, rfl⟩, ⟨_, rfl⟩, ⟨_, rfl⟩, ⟨_, rfl⟩, ⟨_, rfl⟩, ⟨_, rfl⟩, ⟨_, rfl⟩, ⟨_, rfl⟩, ⟨_, rfl⟩, ⟨_, rfl⟩, ⟨_, rfl⟩, ⟨_, rfl⟩, ⟨_, rfl⟩, ⟨_, rfl⟩⟩ ⟨HX.out.trans (ext_set _ _ _), Em.there_setCell HT.out _ _, by first | (simp [hc39]; done) | go_cell, HF.out.set_off _ _ (by decide)⟩
set_option maxHeartbeats 32000000 in
set_option maxRecDepth 100000 in
theorem ct1 {p b n cp i : Nat} {wv : Value} {lb : Bool} {a : Act} {w0 w : World} {K : Act → World → Prop} {Q : Exit → Act → World → Prop} (hI : In p b n cp i wv lb a) {M : Bool} (hA : Aft p M w0 w)
    (hK : ∀ a' w', In p b n cp i wv lb a' → Aft p M w0 w' → K a' w') : cT1.wp Tryd.prog (Exit.then K Q) a w := by
  obtain ⟨⟨c39, hc39⟩, hf39⟩ := at_there hA.there 39 (by decide)
  obtain ⟨⟨c40, hc40⟩, hf40⟩ := at_there hA.there 40 (by decide)
  obtain ⟨⟨c41, hc41⟩, hf41⟩ := at_there hA.there 41 (by decide)
  obtain ⟨⟨c42, hc42⟩, hf42⟩ := at_there hA.there 42 (by decide)
  obtain ⟨⟨c43, hc43⟩, hf43⟩ := at_there hA.there 43 (by decide)
  have HA := Lib.hid hA
  clear hA
  obtain ⟨v5, e5⟩ := hI.f5
  obtain ⟨v6, e6⟩ := hI.f6
  obtain ⟨v8, e8⟩ := hI.f8
  obtain ⟨v9, e9⟩ := hI.f9
  obtain ⟨v10, e10⟩ := hI.f10
  obtain ⟨v11, e11⟩ := hI.f11
  obtain ⟨v12, e12⟩ := hI.f12
  obtain ⟨v13, e13⟩ := hI.f13
  obtain ⟨v14, e14⟩ := hI.f14
  obtain ⟨v15, e15⟩ := hI.f15
  obtain ⟨v16, e16⟩ := hI.f16
  obtain ⟨v17, e17⟩ := hI.f17
  obtain ⟨v18, e18⟩ := hI.f18
  obtain ⟨v19, e19⟩ := hI.f19
  rw [lit321 a hI.size hI.defers, hI.s0, hI.s1, hI.s7, hI.s20, hI.s21, e5, e6, e8, e9, e10, e11, e12, e13, e14, e15, e16, e17, e18, e19]
  clear e5 e6 e8 e9 e10 e11 e12 e13 e14 e15 e16 e17 e18 e19
  have HKK := Lib.hid hK
  clear hK hI
  conv => arg 2; whnf
  try simp only [List.append]
  repeat' (first | exact HKK.out _ _ ⟨rfl, rfl, rfl, rfl, rfl, rfl, rfl, ⟨_, rfl⟩, ⟨_, rfl⟩, ⟨_, rfl⟩, ⟨_, rfl⟩, ⟨_, rfl⟩, ⟨_, rfl⟩, ⟨_, rfl⟩, ⟨_, rfl⟩, ⟨_, rfl⟩, ⟨_, rfl⟩, ⟨_, rfl⟩, ⟨_, rfl⟩, ⟨_, rfl⟩, ⟨_, rfl⟩⟩ (by repeat (first | exact HA.out | refine Aft.set ?_ _ _ (by decide))) | go_wp2_with fail)
set_option maxHeartbeats 32000000 in
set_option maxRecDepth 100000 in
theorem ct2 {p b n cp i : Nat} {wv : Value} {lb : Bool} {a : Act} {w0 w : World} {K : Act → World → Prop} {Q : Exit → Act → World → Prop} (hI : In p b n cp i wv lb a) {M : Bool} (hA : Aft p M w0 w)
    (hK : ∀ a' w', In p b n cp i wv lb a' → Aft p M w0 w' → K a' w') : cT2.wp Tryd.prog (Exit.then K Q) a w := by
  obtain ⟨⟨c39, hc39⟩, hf39⟩ := at_there hA.there 39 (by decide)
  obtain ⟨⟨c40, hc40⟩, hf40⟩ := at_there hA.there 40 (by decide)
  obtain ⟨⟨c41, hc41⟩, hf41⟩ := at_there hA.there 41 (by decide)
  obtain ⟨⟨c42, hc42⟩, hf42⟩ := at_there hA.there 42 (by decide)
  obtain ⟨⟨c43, hc43⟩, hf43⟩ := at_there hA.there 43 (by decide)
  have HA := Lib.hid hA
  clear hA
  obtain ⟨v5, e5⟩ := hI.f5
  obtain ⟨v6, e6⟩ := hI.f6
  obtain ⟨v8, e8⟩ := hI.f8
  obtain ⟨v9, e9⟩ := hI.f9
  obtain ⟨v10, e10⟩ := hI.f10
  obtain ⟨v11, e11⟩ := hI.f11
  obtain ⟨v12, e12⟩ := hI.f12
  obtain ⟨v13, e13⟩ := hI.f13
  obtain ⟨v14, e14⟩ := hI.f14
  obtain ⟨v15, e15⟩ := hI.f15
  obtain ⟨v16, e16⟩ := hI.f16
  obtain ⟨v17, e17⟩ := hI.f17
  obtain ⟨v18, e18⟩ := hI.f18
  obtain ⟨v19, e19⟩ := hI.f19
  rw [lit321 a hI.size hI.defers, hI.s0, hI.s1, hI.s7, hI.s20, hI.s21, e5, e6, e8, e9, e10, e11, e12, e13, e14, e15, e16, e17, e18, e19]
  clear e5 e6 e8 e9 e10 e11 e12 e13 e14 e15 e16 e17 e18 e19
  have HKK := Lib.hid hK
  clear hK hI
  conv => arg 2; whnf
  try simp only [List.append]
  repeat' (first | exact HKK.out _ _ ⟨rfl, rfl, rfl, rfl, rfl, rfl, rfl, ⟨_, rfl⟩, ⟨_, rfl⟩, ⟨_, rfl⟩, ⟨_, rfl⟩, ⟨_, rfl⟩, ⟨_, rfl⟩, ⟨_, rfl⟩, ⟨_, rfl⟩, ⟨_, rfl⟩, ⟨_, rfl⟩, ⟨_, rfl⟩, ⟨_, rfl⟩, ⟨_, rfl⟩, ⟨_, rfl⟩⟩ (by repeat (first | exact HA.out | refine Aft.set ?_ _ _ (by decide))) | go_wp2_with fail)
set_option maxHeartbeats 32000000 in
set_option maxRecDepth 100000 in
theorem ct3 {p b n cp i : Nat} {wv : Value} {lb : Bool} {a : Act} {w0 w : World} {K : Act → World → Prop} {Q : Exit → Act → World → Prop} (hI : In p b n cp i wv lb a) {M : Bool} (hA : Aft p M w0 w)
    (hK : ∀ a' w', In p b n cp i wv lb a' → Aft p M w0 w' → K a' w') : cT3.wp Tryd.prog (Exit.then K Q) a w := by
  obtain ⟨⟨c39, hc39⟩, hf39⟩ := at_there hA.there 39 (by decide)
  obtain ⟨⟨c40, hc40⟩, hf40⟩ := at_there hA.there 40 (by decide)
  obtain ⟨⟨c41, hc41⟩, hf41⟩ := at_there hA.there 41 (by decide)
  obtain ⟨⟨c42, hc42⟩, hf42⟩ := at_there hA.there 42 (by decide)
  obtain ⟨⟨c43, hc43⟩, hf43⟩ := at_there hA.there 43 (by decide)
  have HA := Lib.hid hA
  clear hA
  obtain ⟨v5, e5⟩ := hI.f5
  obtain ⟨v6, e6⟩ := hI.f6
  obtain ⟨v8, e8⟩ := hI.f8
  obtain ⟨v9, e9⟩ := hI.f9
  obtain ⟨v10, e10⟩ := hI.f10
  obtain ⟨v11, e11⟩ := hI.f11
  obtain ⟨v12, e12⟩ := hI.f12
  obtain ⟨v13, e13⟩ := hI.f13
  obtain ⟨v14, e14⟩ := hI.f14
  obtain ⟨v15, e15⟩ := hI.f15
  obtain ⟨v16, e16⟩ := hI.f16
  obtain ⟨v17, e17⟩ := hI.f17
  obtain ⟨v18, e18⟩ := hI.f18
  obtain ⟨v19, e19⟩ := hI.f19
  rw [lit321 a hI.size hI.defers, hI.s0, hI.s1, hI.s7, hI.s20, hI.s21, e5, e6, e8, e9, e10, e11, e12, e13, e14, e15, e16, e17, e18, e19]
  clear e5 e6 e8 e9 e10 e11 e12 e13 e14 e15 e16 e17 e18 e19
  have HKK := Lib.hid hK
  clear hK hI
  conv => arg 2; whnf
  try simp only [List.append]
  repeat' (first | exact HKK.out _ _ ⟨rfl, rfl, rfl, rfl, rfl, rfl, rfl, ⟨_, rfl⟩, ⟨_, rfl⟩, ⟨_, rfl⟩, ⟨_, rfl⟩, ⟨_, rfl⟩, ⟨_, rfl⟩, ⟨_, rfl⟩, ⟨_, rfl⟩, ⟨_, rfl⟩, ⟨_, rfl⟩, ⟨_, rfl⟩, ⟨_, rfl⟩, ⟨_, rfl⟩, ⟨_, rfl⟩⟩ (by repeat (first | exact HA.out | refine Aft.set ?_ _ _ (by decide))) | go_wp2_with fail)
set_option maxHeartbeats 32000000 in
set_option maxRecDepth 100000 in
theorem ct4 {p b n cp i : Nat} {wv : Value} {lb : Bool} {a : Act} {w0 w : World} {K : Act → World → Prop} {Q : Exit → Act → World → Prop} (hI : In p b n cp i wv lb a) {M : Bool} (hA : Aft p M w0 w)
    (hK : ∀ a' w', In p b n cp i wv lb a' → Aft p M w0 w' → K a' w') : cT4.wp Tryd.prog (Exit.then K Q) a w := by
  obtain ⟨⟨c39, hc39⟩, hf39⟩ := at_there hA.there 39 (by decide)
  obtain ⟨⟨c40, hc40⟩, hf40⟩ := at_there hA.there 40 (by decide)
  obtain ⟨⟨c41, hc41⟩, hf41⟩ := at_there hA.there 41 (by decide)
  obtain ⟨⟨c42, hc42⟩, hf42⟩ := at_there hA.there 42 (by decide)
  obtain ⟨⟨c43, hc43⟩, hf43⟩ := at_there hA.there 43 (by decide)
  have HA := Lib.hid hA
  clear hA
  obtain ⟨v5, e5⟩ := hI.f5
  obtain ⟨v6, e6⟩ := hI.f6
  obtain ⟨v8, e8⟩ := hI.f8
  obtain ⟨v9, e9⟩ := hI.f9
  obtain ⟨v10, e10⟩ := hI.f10
  obtain ⟨v11, e11⟩ := hI.f11
  obtain ⟨v12, e12⟩ := hI.f12
  obtain ⟨v13, e13⟩ := hI.f13
  obtain ⟨v14, e14⟩ := hI.f14
  obtain ⟨v15, e15⟩ := hI.f15
  obtain ⟨v16, e16⟩ := hI.f16
  obtain ⟨v17, e17⟩ := hI.f17
  obtain ⟨v18, e18⟩ := hI.f18
  obtain ⟨v19, e19⟩ := hI.f19
  rw [lit321 a hI.size hI.defers, hI.s0, hI.s1, hI.s7, hI.s20, hI.s21, e5, e6, e8, e9, e10, e11, e12, e13, e14, e15, e16, e17, e18, e19]
  clear e5 e6 e8 e9 e10 e11 e12 e13 e14 e15 e16 e17 e18 e19
  have HKK := Lib.hid hK
  clear hK hI
  conv => arg 2; whnf
  try simp only [List.append]
  repeat' (first | exact HKK.out _ _ ⟨rfl, rfl, rfl, rfl, rfl, rfl, rfl, ⟨_, rfl⟩, ⟨_, rfl⟩, ⟨_, rfl⟩, ⟨_, rfl⟩, ⟨_, rfl⟩, ⟨_, rfl⟩, ⟨_, rfl⟩, ⟨_, rfl⟩, ⟨_, rfl⟩, ⟨_, rfl⟩, ⟨_, rfl⟩, ⟨_, rfl⟩, ⟨_, rfl⟩, ⟨_, rfl⟩⟩ (by repeat (first | exact HA.out | refine Aft.set ?_ _ _ (by decide))) | go_wp2_with fail)
set_option maxHeartbeats 32000000 in
set_option maxRecDepth 100000 in
theorem ct5 {p b n cp i : Nat} {wv : Value} {lb : Bool} {a : Act} {w0 w : World} {K : Act → World → Prop} {Q : Exit → Act → World → Prop} (hI : In p b n cp i wv lb a) {M : Bool} (hA : Aft p M w0 w)
    (hK : ∀ a' w', In p b n cp i wv lb a' → Aft p M w0 w' → K a' w') : cT5.wp Tryd.prog (Exit.then K Q) a w := by
  obtain ⟨⟨c39, hc39⟩, hf39⟩ := at_there hA.there 39 (by decide)
  obtain ⟨⟨c40, hc40⟩, hf40⟩ := at_there hA.there 40 (by decide)
  obtain ⟨⟨c41, hc41⟩, hf41⟩ := at_there hA.there 41 (by decide)
  obtain ⟨⟨c42, hc42⟩, hf42⟩ := at_there hA.there 42 (by decide)
  obtain ⟨⟨c43, hc43⟩, hf43⟩ := at_there hA.there 43 (by decide)
  have HA := Lib.hid hA
  clear hA
  obtain ⟨v5, e5⟩ := hI.f5
  obtain ⟨v6, e6⟩ := hI.f6
  obtain ⟨v8, e8⟩ := hI.f8
  obtain ⟨v9, e9⟩ := hI.f9
  obtain ⟨v10, e10⟩ := hI.f10
  obtain ⟨v11, e11⟩ := hI.f11
  obtain ⟨v12, e12⟩ := hI.f12
  obtain ⟨v13, e13⟩ := hI.f13
  obtain ⟨v14, e14⟩ := hI.f14
  obtain ⟨v15, e15⟩ := hI.f15
  obtain ⟨v16, e16⟩ := hI.f16
  obtain ⟨v17, e17⟩ := hI.f17
  obtain ⟨v18, e18⟩ := hI.f18
  obtain ⟨v19, e19⟩ := hI.f19
  rw [lit321 a hI.size hI.defers, hI.s0, hI.s1, hI.s7, hI.s20, hI.s21, e5, e6, e8, e9, e10, e11, e12, e13, e14, e15, e16, e17, e18, e19]
  clear e5 e6 e8 e9 e10 e11 e12 e13 e14 e15 e16 e17 e18 e19
  have HKK := Lib.hid hK
  clear hK hI
  conv => arg 2; whnf
  try simp only [List.append]
  cases v10 <;> cases v11 <;> cases v12 <;> repeat' (first | exact HKK.out _ _ ⟨rfl, rfl, rfl, rfl, rfl, rfl, rfl, ⟨_, rfl⟩, ⟨_, rfl⟩, ⟨_, rfl⟩, ⟨_, rfl⟩, ⟨_, rfl⟩, ⟨_, rfl⟩, ⟨_, rfl⟩, ⟨_, rfl⟩, ⟨_, rfl⟩, ⟨_, rfl⟩, ⟨_, rfl⟩, ⟨_, rfl⟩, ⟨_, rfl⟩, ⟨_, rfl⟩⟩ (by repeat (first | exact HA.out | refine Aft.set ?_ _ _ (by decide))) | go_wp2_with fail)
set_option maxHeartbeats 32000000 in
set_option maxRecDepth 100000 in
theorem ct6 {p b n cp i : Nat} {wv : Value} {lb : Bool} {a : Act} {w0 w : World} {K : Act → World → Prop} {Q : Exit → Act → World → Prop} (hI : In p b n cp i wv lb a) {M : Bool} (hA : Aft p M w0 w)
    (hK : ∀ a' w', In p b n cp i wv lb a' → Aft p M w0 w' → K a' w') : cT6.wp Tryd.prog (Exit.then K Q) a w := by
  obtain ⟨⟨c39, hc39⟩, hf39⟩ := at_there hA.there 39 (by decide)
  obtain ⟨⟨c40, hc40⟩, hf40⟩ := at_there hA.there 40 (by decide)
  obtain ⟨⟨c41, hc41⟩, hf41⟩ := at_there hA.there 41 (by decide)
  obtain ⟨⟨c42, hc42⟩, hf42⟩ := at_there hA.there 42 (by decide)
  obtain ⟨⟨c43, hc43⟩, hf43⟩ := at_there hA.there 43 (by decide)
  have HA := Lib.hid hA
  clear hA
  obtain ⟨v5, e5⟩ := hI.f5
  obtain ⟨v6, e6⟩ := hI.f6
  obtain ⟨v8, e8⟩ := hI.f8
  obtain ⟨v9, e9⟩ := hI.f9
  obtain ⟨v10, e10⟩ := hI.f10
  obtain ⟨v11, e11⟩ := hI.f11
  obtain ⟨v12, e12⟩ := hI.f12
  obtain ⟨v13, e13⟩ := hI.f13
  obtain ⟨v14, e14⟩ := hI.f14
  obtain ⟨v15, e15⟩ := hI.f15
  obtain ⟨v16, e16⟩ := hI.f16
  obtain ⟨v17, e17⟩ := hI.f17
  obtain ⟨v18, e18⟩ := hI.f18
  obtain ⟨v19, e19⟩ := hI.f19
  rw [lit321 a hI.size hI.defers, hI.s0, hI.s1, hI.s7, hI.s20, hI.s21, e5, e6, e8, e9, e10, e11, e12, e13, e14, e15, e16, e17, e18, e19]
  clear e5 e6 e8 e9 e10 e11 e12 e13 e14 e15 e16 e17 e18 e19
  have HKK := Lib.hid hK
  clear hK hI
  conv => arg 2; whnf
  try simp only [List.append]
  repeat' (first | exact HKK.out _ _ ⟨rfl, rfl, rfl, rfl, rfl, rfl, rfl, ⟨_, rfl⟩, ⟨_, rfl⟩, ⟨_, rfl⟩, ⟨_, rfl⟩, ⟨_, rfl⟩, ⟨_, rfl⟩, ⟨_, rfl⟩, ⟨_, rfl⟩, ⟨_, rfl⟩, ⟨_, rfl⟩, ⟨_, rfl⟩, ⟨_, rfl⟩, ⟨_, rfl⟩, ⟨_, rfl⟩⟩ (by repeat (first | exact HA.out | refine Aft.set ?_ _ _ (by decide))) | go_wp2_with fail)
set_option maxHeartbeats 32000000 in
set_option maxRecDepth 100000 in
theorem ct7 {p b n cp i : Nat} {wv : Value} {lb : Bool} {a : Act} {w0 w : World} {K : Act → World → Prop} {Q : Exit → Act → World → Prop} (hI : In p b n cp i wv lb a) {M : Bool} (hA : Aft p M w0 w)
    (hK : ∀ a' w', In p b n cp i wv lb a' → Aft p M w0 w' → K a' w') : cT7.wp Tryd.prog (Exit.then K Q) a w := by
  obtain ⟨⟨c39, hc39⟩, hf39⟩ := at_there hA.there 39 (by decide)
  obtain ⟨⟨c40, hc40⟩, hf40⟩ := at_there hA.there 40 (by decide)
  obtain ⟨⟨c41, hc41⟩, hf41⟩ := at_there hA.there 41 (by decide)
  obtain ⟨⟨c42, hc42⟩, hf42⟩ := at_there hA.there 42 (by decide)
  obtain ⟨⟨c43, hc43⟩, hf43⟩ := at_there hA.there 43 (by decide)
  have HA := Lib.hid hA
  clear hA
  obtain ⟨v5, e5⟩ := hI.f5
  obtain ⟨v6, e6⟩ := hI.f6
  obtain ⟨v8, e8⟩ := hI.f8
  obtain ⟨v9, e9⟩ := hI.f9
  obtain ⟨v10, e10⟩ := hI.f10
  obtain ⟨v11, e11⟩ := hI.f11
  obtain ⟨v12, e12⟩ := hI.f12
  obtain ⟨v13, e13⟩ := hI.f13
  obtain ⟨v14, e14⟩ := hI.f14
  obtain ⟨v15, e15⟩ := hI.f15
  obtain ⟨v16, e16⟩ := hI.f16
  obtain ⟨v17, e17⟩ := hI.f17
  obtain ⟨v18, e18⟩ := hI.f18
  obtain ⟨v19, e19⟩ := hI.f19
  rw [lit321 a hI.size hI.defers, hI.s0, hI.s1, hI.s7, hI.s20, hI.s21, e5, e6, e8, e9, e10, e11, e12, e13, e14, e15, e16, e17, e18, e19]
  clear e5 e6 e8 e9 e10 e11 e12 e13 e14 e15 e16 e17 e18 e19
  have HKK := Lib.hid hK
  clear hK hI
  conv => arg 2; whnf
  try simp only [List.append]
  repeat' (first | exact HKK.out _ _ ⟨rfl, rfl, rfl, rfl, rfl, rfl, rfl, ⟨_, rfl⟩, ⟨_, rfl⟩, ⟨_, rfl⟩, ⟨_, rfl⟩, ⟨_, rfl⟩, ⟨_, rfl⟩, ⟨_, rfl⟩, ⟨_, rfl⟩, ⟨_, rfl⟩, ⟨_, rfl⟩, ⟨_, rfl⟩, ⟨_, rfl⟩, ⟨_, rfl⟩, ⟨_, rfl⟩⟩ (by repeat (first | exact HA.out | refine Aft.set ?_ _ _ (by decide))) | go_wp2_with fail)
set_option maxHeartbeats 32000000 in
set_option maxRecDepth 100000 in
theorem ct8 {p b n cp i : Nat} {wv : Value} {lb : Bool} {a : Act} {w0 w : World} {K : Act → World → Prop} {Q : Exit → Act → World → Prop} (hI : In p b n cp i wv lb a) {M : Bool} (hA : Aft p M w0 w)
    (hK : ∀ a' w', In p b n cp i wv lb a' → Aft p M w0 w' → K a' w') : cT8.wp Tryd.prog (Exit.then K Q) a w := by
  obtain ⟨⟨c39, hc39⟩, hf39⟩ := at_there hA.there 39 (by decide)
  obtain ⟨⟨c40, hc40⟩, hf40⟩ := at_there hA.there 40 (by decide)
  obtain ⟨⟨c41, hc41⟩, hf41⟩ := at_there hA.there 41 (by decide)
  obtain ⟨⟨c42, hc42⟩, hf42⟩ := at_there hA.there 42 (by decide)
  obtain ⟨⟨c43, hc43⟩, hf43⟩ := at_there hA.there 43 (by decide)
  have HA := Lib.hid hA
  clear hA
  obtain ⟨v5, e5⟩ := hI.f5
  obtain ⟨v6, e6⟩ := hI.f6
  obtain ⟨v8, e8⟩ := hI.f8
  obtain ⟨v9, e9⟩ := hI.f9
  obtain ⟨v10, e10⟩ := hI.f10
  obtain ⟨v11, e11⟩ := hI.f11
  obtain ⟨v12, e12⟩ := hI.f12
  obtain ⟨v13, e13⟩ := hI.f13
  obtain ⟨v14, e14⟩ := hI.f14
  obtain ⟨v15, e15⟩ := hI.f15
  obtain ⟨v16, e16⟩ := hI.f16
  obtain ⟨v17, e17⟩ := hI.f17
  obtain ⟨v18, e18⟩ := hI.f18
  obtain ⟨v19, e19⟩ := hI.f19
  rw [lit321 a hI.size hI.defers, hI.s0, hI.s1, hI.s7, hI.s20, hI.s21, e5, e6, e8, e9, e10, e11, e12, e13, e14, e15, e16, e17, e18, e19]
  clear e5 e6 e8 e9 e10 e11 e12 e13 e14 e15 e16 e17 e18 e19
  have HKK := Lib.hid hK
  clear hK hI
  conv => arg 2; whnf
  try simp only [List.append]
  cases v15 <;> cases v9 <;> repeat' (first | exact HKK.out _ _ ⟨rfl, rfl, rfl, rfl, rfl, rfl, rfl, ⟨_, rfl⟩, ⟨_, rfl⟩, ⟨_, rfl⟩, ⟨_, rfl⟩, ⟨_, rfl⟩, ⟨_, rfl⟩, ⟨_, rfl⟩, ⟨_, rfl⟩, ⟨_, rfl⟩, ⟨_, rfl⟩, ⟨_, rfl⟩, ⟨_, rfl⟩, ⟨_, rfl⟩, ⟨_, rfl⟩⟩ (by repeat (first | exact HA.out | refine Aft.set ?_ _ _ (by decide))) | go_wp2_with fail)
set_option maxHeartbeats 32000000 in
set_option maxRecDepth 100000 in
theorem ct9 {p b n cp i : Nat} {wv : Value} {lb : Bool} {a : Act} {w0 w : World} {K : Act → World → Prop} {Q : Exit → Act → World → Prop} (hI : In p b n cp i wv lb a) {M : Bool} (hA : Aft p M w0 w)
    (hK : ∀ a' w', In p b n cp i wv lb a' → Aft p M w0 w' → K a' w') : cT9.wp Tryd.prog (Exit.then K Q) a w := by
  obtain ⟨⟨c39, hc39⟩, hf39⟩ := at_there hA.there 39 (by decide)
  obtain ⟨⟨c40, hc40⟩, hf40⟩ := at_there hA.there 40 (by decide)
  obtain ⟨⟨c41, hc41⟩, hf41⟩ := at_there hA.there 41 (by decide)
  obtain ⟨⟨c42, hc42⟩, hf42⟩ := at_there hA.there 42 (by decide)
  obtain ⟨⟨c43, hc43⟩, hf43⟩ := at_there hA.there 43 (by decide)
  have HA := Lib.hid hA
  clear hA
  obtain ⟨v5, e5⟩ := hI.f5
  obtain ⟨v6, e6⟩ := hI.f6
  obtain ⟨v8, e8⟩ := hI.f8
  obtain ⟨v9, e9⟩ := hI.f9
  obtain ⟨v10, e10⟩ := hI.f10
  obtain ⟨v11, e11⟩ := hI.f11
  obtain ⟨v12, e12⟩ := hI.f12
  obtain ⟨v13, e13⟩ := hI.f13
  obtain ⟨v14, e14⟩ := hI.f14
  obtain ⟨v15, e15⟩ := hI.f15
  obtain ⟨v16, e16⟩ := hI.f16
  obtain ⟨v17, e17⟩ := hI.f17
  obtain ⟨v18, e18⟩ := hI.f18
  obtain ⟨v19, e19⟩ := hI.f19
  rw [lit321 a hI.size hI.defers, hI.s0, hI.s1, hI.s7, hI.s20, hI.s21, e5, e6, e8, e9, e10, e11, e12, e13, e14, e15, e16, e17, e18, e19]
  clear e5 e6 e8 e9 e10 e11 e12 e13 e14 e15 e16 e17 e18 e19
  have HKK := Lib.hid hK
  clear hK hI
  conv => arg 2; whnf
  try simp only [List.append]
  cases v15 <;> repeat' (first | exact HKK.out _ _ ⟨rfl, rfl, rfl, rfl, rfl, rfl, rfl, ⟨_, rfl⟩, ⟨_, rfl⟩, ⟨_, rfl⟩, ⟨_, rfl⟩, ⟨_, rfl⟩, ⟨_, rfl⟩, ⟨_, rfl⟩, ⟨_, rfl⟩, ⟨_, rfl⟩, ⟨_, rfl⟩, ⟨_, rfl⟩, ⟨_, rfl⟩, ⟨_, rfl⟩, ⟨_, rfl⟩⟩ (by repeat (first | exact HA.out | refine Aft.set ?_ _ _ (by decide))) | go_wp2_with fail)
set_option maxHeartbeats 32000000 in
set_option maxRecDepth 100000 in
theorem ct10 {p b n cp i : Nat} {wv : Value} {lb : Bool} {a : Act} {w0 w : World} {K : Act → World → Prop} {Q : Exit → Act → World → Prop} (hI : In p b n cp i wv lb a) {M : Bool} (hA : Aft p M w0 w)
    (hK : ∀ a' w', In p b n cp i wv lb a' → Aft p M w0 w' → K a' w') : cT10.wp Tryd.prog (Exit.then K Q) a w := by
  obtain ⟨⟨c39, hc39⟩, hf39⟩ := at_there hA.there 39 (by decide)
  obtain ⟨⟨c40, hc40⟩, hf40⟩ := at_there hA.there 40 (by decide)
  obtain ⟨⟨c41, hc41⟩, hf41⟩ := at_there hA.there 41 (by decide)
  obtain ⟨⟨c42, hc42⟩, hf42⟩ := at_there hA.there 42 (by decide)
  obtain ⟨⟨c43, hc43⟩, hf43⟩ := at_there hA.there 43 (by decide)
  have HA := Lib.hid hA
  clear hA
  obtain ⟨v5, e5⟩ := hI.f5
  obtain ⟨v6, e6⟩ := hI.f6
  obtain ⟨v8, e8⟩ := hI.f8
  obtain ⟨v9, e9⟩ := hI.f9
  obtain ⟨v10, e10⟩ := hI.f10
  obtain ⟨v11, e11⟩ := hI.f11
  obtain ⟨v12, e12⟩ := hI.f12
  obtain ⟨v13, e13⟩ := hI.f13
  obtain ⟨v14, e14⟩ := hI.f14
  obtain ⟨v15, e15⟩ := hI.f15
  obtain ⟨v16, e16⟩ := hI.f16
  obtain ⟨v17, e17⟩ := hI.f17
  obtain ⟨v18, e18⟩ := hI.f18
  obtain ⟨v19, e19⟩ := hI.f19
  rw [lit321 a hI.size hI.defers, hI.s0, hI.s1, hI.s7, hI.s20, hI.s21, e5, e6, e8, e9, e10, e11, e12, e13, e14, e15, e16, e17, e18, e19]
  clear e5 e6 e8 e9 e10 e11 e12 e13 e14 e15 e16 e17 e18 e19
  have HKK := Lib.hid hK
  clear hK hI
  conv => arg 2; whnf
  try simp only [List.append]
  repeat' (first | exact HKK.out _ _ ⟨rfl, rfl, rfl, rfl, rfl, rfl, rfl, ⟨_, rfl⟩, ⟨_, rfl⟩, ⟨_, rfl⟩, ⟨_, rfl⟩, ⟨_, rfl⟩, ⟨_, rfl⟩, ⟨_, rfl⟩, ⟨_, rfl⟩, ⟨_, rfl⟩, ⟨_, rfl⟩, ⟨_, rfl⟩, ⟨_, rfl⟩, ⟨_, rfl⟩, ⟨_, rfl⟩⟩ (by repeat (first | exact HA.out | refine Aft.set ?_ _ _ (by decide))) | go_wp2_with fail)
set_option maxHeartbeats 32000000 in
set_option maxRecDepth 100000 in
theorem ct11 {p b n cp i : Nat} {wv : Value} {lb : Bool} {a : Act} {w0 w : World} {K : Act → World → Prop} {Q : Exit → Act → World → Prop} (hI : In p b n cp i wv lb a) {M : Bool} (hA : Aft p M w0 w)
    (hK : ∀ a' w', In p b n cp i wv lb a' → Aft p M w0 w' → K a' w') : cT11.wp Tryd.prog (Exit.then K Q) a w := by
  obtain ⟨⟨c39, hc39⟩, hf39⟩ := at_there hA.there 39 (by decide)
  obtain ⟨⟨c40, hc40⟩, hf40⟩ := at_there hA.there 40 (by decide)
  obtain ⟨⟨c41, hc41⟩, hf41⟩ := at_there hA.there 41 (by decide)
  obtain ⟨⟨c42, hc42⟩, hf42⟩ := at_there hA.there 42 (by decide)
  obtain ⟨⟨c43, hc43⟩, hf43⟩ := at_there hA.there 43 (by decide)
  have HA := Lib.hid hA
  clear hA
  obtain ⟨v5, e5⟩ := hI.f5
  obtain ⟨v6, e6⟩ := hI.f6
  obtain ⟨v8, e8⟩ := hI.f8
  obtain ⟨v9, e9⟩ := hI.f9
  obtain ⟨v10, e10⟩ := hI.f10
  obtain ⟨v11, e11⟩ := hI.f11
  obtain ⟨v12, e12⟩ := hI.f12
  obtain ⟨v13, e13⟩ := hI.f13
  obtain ⟨v14, e14⟩ := hI.f14
  obtain ⟨v15, e15⟩ := hI.f15
  obtain ⟨v16, e16⟩ := hI.f16
  obtain ⟨v17, e17⟩ := hI.f17
  obtain ⟨v18, e18⟩ := hI.f18
  obtain ⟨v19, e19⟩ := hI.f19
  rw [lit321 a hI.size hI.defers, hI.s0, hI.s1, hI.s7, hI.s20, hI.s21, e5, e6, e8, e9, e10, e11, e12, e13, e14, e15, e16, e17, e18, e19]
  clear e5 e6 e8 e9 e10 e11 e12 e13 e14 e15 e16 e17 e18 e19
  have HKK := Lib.hid hK
  clear hK hI
  conv => arg 2; whnf
  try simp only [List.append]
  repeat' (first | exact HKK.out _ _ ⟨rfl, rfl, rfl, rfl, rfl, rfl, rfl, ⟨_, rfl⟩, ⟨_, rfl⟩, ⟨_, rfl⟩, ⟨_, rfl⟩, ⟨_, rfl⟩, ⟨_, rfl⟩, ⟨_, rfl⟩, ⟨_, rfl⟩, ⟨_, rfl⟩, ⟨_, rfl⟩, ⟨_, rfl⟩, ⟨_, rfl⟩, ⟨_, rfl⟩, ⟨_, rfl⟩⟩ (by repeat (first | exact HA.out | refine Aft.set ?_ _ _ (by decide))) | go_wp2_with fail)
set_option maxHeartbeats 32000000 in
set_option maxRecDepth 100000 in
theorem ct12 {p b n cp i : Nat} {wv : Value} {lb : Bool} {a : Act} {w0 w : World} {K : Act → World → Prop} {Q : Exit → Act → World → Prop} (hI : In p b n cp i wv lb a) {M : Bool} (hA : Aft p M w0 w)
    (hK : ∀ a' w', In p b n cp i wv lb a' → Aft p M w0 w' → K a' w') : cT12.wp Tryd.prog (Exit.then K Q) a w := by
  obtain ⟨⟨c39, hc39⟩, hf39⟩ := at_there hA.there 39 (by decide)
  obtain ⟨⟨c40, hc40⟩, hf40⟩ := at_there hA.there 40 (by decide)
  obtain ⟨⟨c41, hc41⟩, hf41⟩ := at_there hA.there 41 (by decide)
  obtain ⟨⟨c42, hc42⟩, hf42⟩ := at_there hA.there 42 (by decide)
  obtain ⟨⟨c43, hc43⟩, hf43⟩ := at_there hA.there 43 (by decide)
  have HA := Lib.hid hA
  clear hA
  obtain ⟨v5, e5⟩ := hI.f5
  obtain ⟨v6, e6⟩ := hI.f6
  obtain ⟨v8, e8⟩ := hI.f8
  obtain ⟨v9, e9⟩ := hI.f9
  obtain ⟨v10, e10⟩ := hI.f10
  obtain ⟨v11, e11⟩ := hI.f11
  obtain ⟨v12, e12⟩ := hI.f12
  obtain ⟨v13, e13⟩ := hI.f13
  obtain ⟨v14, e14⟩ := hI.f14
  obtain ⟨v15, e15⟩ := hI.f15
  obtain ⟨v16, e16⟩ := hI.f16
  obtain ⟨v17, e17⟩ := hI.f17
  obtain ⟨v18, e18⟩ := hI.f18
  obtain ⟨v19, e19⟩ := hI.f19
  rw [lit321 a hI.size hI.defers, hI.s0, hI.s1, hI.s7, hI.s20, hI.s21, e5, e6, e8, e9, e10, e11, e12, e13, e14, e15, e16, e17, e18, e19]
  clear e5 e6 e8 e9 e10 e11 e12 e13 e14 e15 e16 e17 e18 e19
  have HKK := Lib.hid hK
  clear hK hI
  conv => arg 2; whnf
  try simp only [List.append]
  repeat' (first | exact HKK.out _ _ ⟨rfl, rfl, rfl, rfl, rfl, rfl, rfl, ⟨_, rfl⟩, ⟨_, rfl⟩, ⟨_, rfl⟩, ⟨_, rfl⟩, ⟨_, rfl⟩, ⟨_, rfl⟩, ⟨_, rfl⟩, ⟨_, rfl⟩, ⟨_, rfl⟩, ⟨_, rfl⟩, ⟨_, rfl⟩, ⟨_, rfl⟩, ⟨_, rfl⟩, ⟨_, rfl⟩⟩ (by repeat (first | exact HA.out | refine Aft.set ?_ _ _ (by decide))) | go_wp2_with fail)
set_option maxHeartbeats 32000000 in
set_option maxRecDepth 100000 in
theorem cte {p b n cp i : Nat} {wv : Value} {lb : Bool} {a : Act} {w : World} {R : Ending → World → Prop} (hI : In p b n cp i wv lb a) (hR : R (.returned (.bool true)) w) : cTe.wp Tryd.prog (bodyPost Tryd.prog Tryd.f23 R) a w := by
  obtain ⟨v5, e5⟩ := hI.f5
  obtain ⟨v6, e6⟩ := hI.f6
  obtain ⟨v8, e8⟩ := hI.f8
  obtain ⟨v9, e9⟩ := hI.f9
  obtain ⟨v10, e10⟩ := hI.f10
  obtain ⟨v11, e11⟩ := hI.f11
  obtain ⟨v12, e12⟩ := hI.f12
  obtain ⟨v13, e13⟩ := hI.f13
  obtain ⟨v14, e14⟩ := hI.f14
  obtain ⟨v15, e15⟩ := hI.f15
  obtain ⟨v16, e16⟩ := hI.f16
  obtain ⟨v17, e17⟩ := hI.f17
  obtain ⟨v18, e18⟩ := hI.f18
  obtain ⟨v19, e19⟩ := hI.f19
  rw [lit321 a hI.size hI.defers, hI.s0, hI.s1, hI.s7, hI.s20, hI.s21, e5, e6, e8, e9, e10, e11, e12, e13, e14, e15, e16, e17, e18, e19]
  clear e5 e6 e8 e9 e10 e11 e12 e13 e14 e15 e16 e17 e18 e19
  have HR := Lib.hid hR
  clear hI hR
  conv => arg 2; whnf
  try simp only [List.append]
  go_wp2_with fail
  exact HR.out
theorem ct_any {p b n cp i : Nat} {wv : Value} {lb : Bool} {a : Act} {w0 w : World} {R : Ending → World → Prop} (hI : In p b n cp i wv lb a) (hX : Em.Ext p w0 w) (hth : w.there p 0 55) (hfl : Scd p w)
    (hR : ∀ w', Aft p lb w0 w' → R (.returned (.bool true)) w') : cT.wp Tryd.prog (bodyPost Tryd.prog Tryd.f23 R) a w := by
  rw [cT_eq]
  refine wp_seq (ct0 hI hX hth hfl fun a0 w0 i0 A0 => ?_)
  refine wp_seq (ct1 i0 A0 fun a1 w1 i1 A1 => ?_)
  refine wp_seq (ct2 i1 A1 fun a2 w2 i2 A2 => ?_)
  refine wp_seq (ct3 i2 A2 fun a3 w3 i3 A3 => ?_)
  refine wp_seq (ct4 i3 A3 fun a4 w4 i4 A4 => ?_)
  refine wp_seq (ct5 i4 A4 fun a5 w5 i5 A5 => ?_)
  refine wp_seq (ct6 i5 A5 fun a6 w6 i6 A6 => ?_)
  refine wp_seq (ct7 i6 A6 fun a7 w7 i7 A7 => ?_)
  refine wp_seq (ct8 i7 A7 fun a8 w8 i8 A8 => ?_)
  refine wp_seq (ct9 i8 A8 fun a9 w9 i9 A9 => ?_)
  refine wp_seq (ct10 i9 A9 fun a10 w10 i10 A10 => ?_)
  refine wp_seq (ct11 i10 A10 fun a11 w11 i11 A11 => ?_)
  refine wp_seq (ct12 i11 A11 fun a12 w12 i12 A12 => ?_)
  exact cte i12 (hR _ A12)
end Go.Proofs.YtcmnjnogdpejfaaDoor.Ln
