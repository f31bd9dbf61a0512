/- The texts of a number, and what the resolver says of them. -/
import Derived.Test.YtpdfamigmkeflaaDoorRiC
import Derived.Test.YtpdfamigmkeflaaDoorRiJ
namespace Go.Proofs.YtpdfamigmkeflaaDoor.Ri
open Go.RowKit Go.Lib
set_option linter.unusedVariables false
set_option linter.unusedSimpArgs false
theorem dg_not {b : Nat} (hb : b ≤ 16) {l : List UInt8} (h : Dg b l) : ∀ c ∈ l, c.toNat ≠ 95 := by
  intro c hc
  obtain ⟨d, h1, rfl⟩ := h c hc
  rw [dgu_nat d (by omega)]
  split <;> omega
theorem cons_not {c : UInt8} {l : List UInt8} (hc : c.toNat ≠ 95) (h : ∀ c ∈ l, c.toNat ≠ 95) : ∀ x ∈ c :: l, x.toNat ≠ 95 := by
  intro x hx
  rw [List.mem_cons] at hx
  rcases hx with rfl | hx
  · exact hc
  · exact h x hx
theorem dec_first (u : Nat) : ∃ d r, d < 10 ∧ decDigits u = dgu d :: r := by
  by_cases h : 1 ≤ u
  · obtain ⟨d, r, _, h2, h3⟩ := dec_head u h
    exact ⟨d, r, h2, h3⟩
  · obtain rfl : u = 0 := by omega
    exact ⟨0, [], by omega, by rw [decDigits]; rfl⟩
theorem pu_dec (u : Nat) (hu : u ≤ 9223372036854775808) : PU (decDigits u) u := by
  intro w
  by_cases h : 1 ≤ u
  · obtain ⟨d, r, h1, h2, h3⟩ := dec_head u h
    obtain ⟨v1, v2, v3⟩ := dec_val u
    have hl := dec_len u 20 (by omega) (by omega)
    have := pu_10 (decDigits u) w v2 v3 (by omega) (by rw [v1]; omega) ((dgu d).toNat : Int) (by simp only [h3]; rfl) (by rw [dgu_nat d (by omega), beq_eq_false_iff_ne]; split <;> omega)
    rw [v1] at this
    exact this
  · obtain rfl : u = 0 := by omega
    have e : decDigits 0 = [48] := by rw [decDigits]; rfl
    rw [e]
    exact pu_0 w
/-- By what a text begins with. -/
theorem rz_of (l : List UInt8) (V : Int) (a : UInt8) (r : List UInt8) (hl : l = a :: r) (hw : Nw l) (h2 : l.length ≤ 1000) (hno : ∀ c ∈ l, c.toNat ≠ 95) (hV : PI l V) : Rz l V := by
  intro w
  subst hl
  obtain ⟨a', r', e, ha⟩ := hw
  rw [List.cons.injEq] at e
  obtain ⟨rfl, rfl⟩ := e
  have hw : Nw (a :: r) := ⟨a, r, rfl, ha⟩
  rcases ha with ha | ⟨ha, _⟩
  · exact resolve_any (a :: r) V (a.toNat : Int) 68 w hw h2 hno rfl (.inr ⟨by omega, rfl⟩) hV
  · exact resolve_any (a :: r) V (a.toNat : Int) 83 w hw h2 hno rfl (.inl ⟨by rcases ha with rfl | rfl; exact .inl rfl; exact .inr rfl, rfl⟩) hV
theorem dgu_range (d : Nat) (h : d < 10) : 48 ≤ (dgu d).toNat ∧ (dgu d).toNat ≤ 57 := by
  rw [dgu_nat d (by omega), if_pos h]
  omega
/-- A number without a sign. -/
theorem rz_plain (u : Nat) (hu : u ≤ 9223372036854775807) : Rz (decDigits u) u := by
  obtain ⟨d, r, h1, h2⟩ := dec_first u
  obtain ⟨v1, v2, v3⟩ := dec_val u
  have hl := dec_len u 20 (by omega) (by omega)
  have hr := dgu_range d h1
  exact rz_of _ _ (dgu d) r h2 ⟨_, _, h2, .inl hr⟩ (by omega) (dg_not (by omega) v2) (pi_plain _ u v3 ((dgu d).toNat : Int) (by simp only [h2]; rfl) (by rw [beq_eq_false_iff_ne]; omega) (by rw [beq_eq_false_iff_ne]; omega) hu (pu_dec u (by omega)))
/-- Behind a plus. -/
theorem rz_plus (u : Nat) (hu : u ≤ 9223372036854775807) : Rz (43 :: decDigits u) u := by
  obtain ⟨d, r, h1, h2⟩ := dec_first u
  obtain ⟨v1, v2, v3⟩ := dec_val u
  have hl := dec_len u 20 (by omega) (by omega)
  have hr := dgu_range d h1
  exact rz_of _ _ 43 _ rfl ⟨_, _, rfl, .inr ⟨.inl rfl, _, _, h2, hr⟩⟩ (by rw [List.length_cons]; omega) (cons_not (by decide) (dg_not (by omega) v2)) (pi_plus _ u hu (pu_dec u (by omega)))
/-- Behind a minus. -/
theorem rz_minus (u : Nat) (hu : u ≤ 9223372036854775808) : Rz (45 :: decDigits u) (-(u : Int)) := by
  obtain ⟨d, r, h1, h2⟩ := dec_first u
  obtain ⟨v1, v2, v3⟩ := dec_val u
  have hl := dec_len u 20 (by omega) (by omega)
  have hr := dgu_range d h1
  exact rz_of _ _ 45 _ rfl ⟨_, _, rfl, .inr ⟨.inr rfl, _, _, h2, hr⟩⟩ (by rw [List.length_cons]; omega) (cons_not (by decide) (dg_not (by omega) v2)) (pi_minus _ u hu (pu_dec u hu))
/-- In hexadecimal digits. -/
theorem rz_16 (u : Nat) (hu : u ≤ 9223372036854775807) : Rz (48 :: 120 :: dig 16 16 u) u := by
  have v1 := dig_val 16 (by omega) (by omega) 16 u (by omega) (by omega)
  have v2 := dig_dg 16 (by omega) 16 u
  have v3 := dig_pos 16 16 u (by omega)
  have hl := dig_len 16 16 u
  have hp : PU (48 :: 120 :: dig 16 16 u) u := fun w => by
    have := pu_16 (dig 16 16 u) w v2 v3 (by omega) (by rw [v1]; omega)
    rw [v1] at this
    exact this
  exact rz_of _ _ 48 _ rfl ⟨_, _, rfl, .inl (by decide)⟩ (by simp only [List.length_cons]; omega) (cons_not (by decide) (cons_not (by decide) (dg_not (by omega) v2))) (pi_plain _ u (by simp) 48 rfl rfl rfl hu hp)
/-- In octal digits. -/
theorem rz_8 (u : Nat) (hu : u ≤ 9223372036854775807) : Rz (48 :: 111 :: dig 8 22 u) u := by
  have v1 := dig_val 8 (by omega) (by omega) 22 u (by omega) (by omega)
  have v2 := dig_dg 8 (by omega) 22 u
  have v3 := dig_pos 8 22 u (by omega)
  have hl := dig_len 8 22 u
  have hp : PU (48 :: 111 :: dig 8 22 u) u := fun w => by
    have := pu_8 (dig 8 22 u) w v2 v3 (by omega) (by rw [v1]; omega)
    rw [v1] at this
    exact this
  exact rz_of _ _ 48 _ rfl ⟨_, _, rfl, .inl (by decide)⟩ (by simp only [List.length_cons]; omega) (cons_not (by decide) (cons_not (by decide) (dg_not (by omega) v2))) (pi_plain _ u (by simp) 48 rfl rfl rfl hu hp)
end Go.Proofs.YtpdfamigmkeflaaDoor.Ri
