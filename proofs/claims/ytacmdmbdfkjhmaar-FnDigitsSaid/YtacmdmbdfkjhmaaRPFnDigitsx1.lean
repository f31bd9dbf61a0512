-- PRINTED BY print.sh 35421559b90ae4d0a3588c463048766b98c2df88dd9212a6774a882060cdf62d: not written by this session
import Derived.Test.YtacmdmbdfkjhmaaRPFnDigitsx0
namespace Go.Proofs.YtacmdmbdfkjhmaaR.PFnDigits
open Go.RowKit Go.Proofs.YtacmdmbdfkjhmaaRW.PrintWords Go.Proofs.YtacmdmbdfkjhmaaRW.PrintLast Go.Proofs.YtacmdmbdfkjhmaaRW.PrintMore
attribute [local go_sem] max2_int min2_int max_two min_two max_three min_three max_four min_four   -- for this text's walks alone
set_option linter.unusedVariables false
set_option linter.unusedSimpArgs false

/-! ### yaml_as_digit: function 49 -/
def yaml_as_digit.f (l0 : List Int) (a1 : Int) : Option (Int) := if 0 ≤ a1 then (if a1 < (l0.length : Int) then (some (wrap64 ((wrap64 (rd l0 a1)) - 48))) else (none)) else (none)
set_option maxHeartbeats 8000000 in
set_option maxRecDepth 100000 in
theorem yaml_as_digit.calls (A0 : Option Addr) (c0 : Nat) (l0 : List Int) (a1 : Int) (r : Int) (w : World) (hr0 : Kd.C (Kd.int .u8) w A0 l0.length l0) (hc0 : l0.length ≤ c0) (h : yaml_as_digit.f l0 a1 = some r) :
    Calls Try.prog 49 #[.slice A0 l0.length c0, .int .i64 a1] w fun e w' => e = .returned (.int .i64 r) ∧ Drawn0 w w' := by
  have HR0 := Aside0.mk hr0
  have HC0 := Aside0.mk hc0
  clear hr0 hc0
  have H : (if 0 ≤ a1 then (if a1 < (l0.length : Int) then (some (wrap64 ((wrap64 (rd l0 a1)) - 48))) else (none)) else (none)) = some r := h
  clear h
  by_cases c3 : 0 ≤ a1
  · rw [if_pos c3] at H
    have c3b0 : decide (0 ≤ a1) = true := decide_eq_true c3
    clear c3
    by_cases c4 : a1 < (l0.length : Int)
    · rw [if_pos c4] at H
      have c4b0 : decide (a1 < (l0.length : Int)) = true := decide_eq_true c4
      clear c4
      obtain rfl := Option.some.inj H
      have p101 : 0 ≤ (a1 : Int) := of_decide_eq_true (by first | (with_reducible assumption) | assumption)
      have q101 : a1 < (l0.length : Int) := of_decide_eq_true (by first | (with_reducible assumption) | assumption)
      obtain ⟨ad101, e101, hx101_0⟩ := Kd.at_int HR0.out a1 p101 q101
      cases e101
      replace p101 := eq_true p101
      replace q101 := eq_true q101
      go_enter Try.func49, Try.ntmps49
      go_wp2
      go_ret
      exact ⟨by first | rfl | (simp; done) | (simp [*]; done), by repeat (first | exact Drawn0.refl _ | apply Drawn0.step)⟩
    · rw [if_neg c4] at H
      exact absurd H (by simp)
  · rw [if_neg c3] at H
    exact absurd H (by simp)

/-! ### yaml_ZzAsDigit: function 26 -/
def yaml_ZzAsDigit.f (l0 : List Int) (a1 : Int) : Option (Int) := (yaml_as_digit.f l0 a1).bind fun t102 => (some t102)
set_option maxHeartbeats 8000000 in
set_option maxRecDepth 100000 in
theorem yaml_ZzAsDigit.calls (A0 : Option Addr) (c0 : Nat) (l0 : List Int) (a1 : Int) (r : Int) (w : World) (hr0 : Kd.C (Kd.int .u8) w A0 l0.length l0) (hc0 : l0.length ≤ c0) (h : yaml_ZzAsDigit.f l0 a1 = some r) :
    Calls Try.prog 26 #[.slice A0 l0.length c0, .int .i64 a1] w fun e w' => e = .returned (.int .i64 r) ∧ Drawn0 w w' := by
  have HR0 := Aside0.mk hr0
  have HC0 := Aside0.mk hc0
  clear hr0 hc0
  have H : ((yaml_as_digit.f l0 a1).bind fun t102 => (some t102)) = some r := h
  clear h
  replace H := Option.bind_eq_some_iff.mp H
  obtain ⟨t102, A30, H⟩ := H
  replace H : (some t102) = some r := H
  have A3 := Aside0.mk A30
  clear A30
  obtain rfl := Option.some.inj H
  go_enter Try.func26, Try.ntmps26
  go_wp2_with (first | ((with_reducible refine gate_callee (f := 49) rfl ?_); refine goesL_ (some 7) rfl rfl Try.func49 (by kernel_rfl) rfl #[.slice A0 l0.length c0, .int .i64 a1] rfl (by (try simp only [List.map_toArray, List.map_cons, List.map_nil]); first | done | rfl | (simp only [List.length_drop, List.length_take]; rfl)) ?_; (with_reducible refine (yaml_as_digit.calls _ _ l0 a1 t102 _ ?side1 ?side2 A3.out).mono ?_); (case side1 => repeat (first | exact HR0.out | (with_reducible refine Kd.C_alloc ?_ _) | (with_reducible refine Kd.C_drewN ?_ _) | (with_reducible refine Kd.C_drew ?_))); (case side2 => exact HC0.out); rintro e w' ⟨rfl, ⟨nd, rfl⟩⟩; refine ⟨_, rfl, ?_⟩))
  go_ret
  exact ⟨by first | rfl | (simp; done) | (simp [*]; done), by repeat (first | exact Drawn0.refl _ | apply Drawn0.step)⟩

/-! ### impl_Digit: function 13 -/
def impl_Digit.f (l0 : List Int) (a1 : Int) : Option (Int) := if a1 < 0 then (some 0) else (if a1 ≥ (l0.length : Int) then (some 0) else ((yaml_ZzAsDigit.f l0 a1).bind fun t103 => (some t103)))
set_option maxHeartbeats 8000000 in
set_option maxRecDepth 100000 in
theorem impl_Digit.calls (A0 : Option Addr) (c0 : Nat) (l0 : List Int) (a1 : Int) (r : Int) (w : World) (hr0 : Kd.C (Kd.int .u8) w A0 l0.length l0) (hc0 : l0.length ≤ c0) (h : impl_Digit.f l0 a1 = some r) :
    Calls Try.prog 13 #[.slice A0 l0.length c0, .int .i64 a1] w fun e w' => e = .returned (.int .i64 r) ∧ Drawn0 w w' := by
  have HR0 := Aside0.mk hr0
  have HC0 := Aside0.mk hc0
  clear hr0 hc0
  have H : (if a1 < 0 then (some 0) else (if a1 ≥ (l0.length : Int) then (some 0) else ((yaml_ZzAsDigit.f l0 a1).bind fun t103 => (some t103)))) = some r := h
  clear h
  by_cases c3 : a1 < 0
  · rw [if_pos c3] at H
    have c3b0 : decide (a1 < 0) = true := decide_eq_true c3
    clear c3
    obtain rfl := Option.some.inj H
    go_enter Try.func13, Try.ntmps13
    go_wp2
    go_ret
    exact ⟨by first | rfl | (simp; done) | (simp [*]; done), by repeat (first | exact Drawn0.refl _ | apply Drawn0.step)⟩
  · rw [if_neg c3] at H
    have c3b0 : decide (a1 < 0) = false := decide_eq_false c3
    clear c3
    by_cases c4 : a1 ≥ (l0.length : Int)
    · rw [if_pos c4] at H
      have c4b0 : decide ((l0.length : Int) ≤ a1) = true := decide_eq_true c4
      clear c4
      obtain rfl := Option.some.inj H
      go_enter Try.func13, Try.ntmps13
      go_wp2
      go_ret
      exact ⟨by first | rfl | (simp; done) | (simp [*]; done), by repeat (first | exact Drawn0.refl _ | apply Drawn0.step)⟩
    · rw [if_neg c4] at H
      have c4b0 : decide ((l0.length : Int) ≤ a1) = false := decide_eq_false c4
      clear c4
      replace H := Option.bind_eq_some_iff.mp H
      obtain ⟨t103, A50, H⟩ := H
      replace H : (some t103) = some r := H
      have A5 := Aside0.mk A50
      clear A50
      obtain rfl := Option.some.inj H
      go_enter Try.func13, Try.ntmps13
      go_wp2_with (first | ((with_reducible refine gate_callee (f := 26) rfl ?_); refine goesL_ (some 15) rfl rfl Try.func26 (by kernel_rfl) rfl #[.slice A0 l0.length c0, .int .i64 a1] rfl (by (try simp only [List.map_toArray, List.map_cons, List.map_nil]); first | done | rfl | (simp only [List.length_drop, List.length_take]; rfl)) ?_; (with_reducible refine (yaml_ZzAsDigit.calls _ _ l0 a1 t103 _ ?side1 ?side2 A5.out).mono ?_); (case side1 => repeat (first | exact HR0.out | (with_reducible refine Kd.C_alloc ?_ _) | (with_reducible refine Kd.C_drewN ?_ _) | (with_reducible refine Kd.C_drew ?_))); (case side2 => exact HC0.out); rintro e w' ⟨rfl, ⟨nd, rfl⟩⟩; refine ⟨_, rfl, ?_⟩))
      go_ret
      exact ⟨by first | rfl | (simp; done) | (simp [*]; done), by repeat (first | exact Drawn0.refl _ | apply Drawn0.step)⟩

/-! ### yaml_as_hex: function 50 -/
def yaml_as_hex.j0 : Nat → Int → Bool → Option (Int)
  | 0, _, _ => none
  | k + 1, x5, x15 => if x15 = true then (some (wrap64 ((wrap64 ((wrap64 (x5)) - 65)) + 10))) else (if x5 ≥ 97 then (if x5 ≤ 102 then (some (wrap64 ((wrap64 ((wrap64 (x5)) - 97)) + 10))) else (some (wrap64 ((wrap64 (x5)) - 48)))) else (some (wrap64 ((wrap64 (x5)) - 48))))
def yaml_as_hex.f (k : Nat) (l0 : List Int) (a1 : Int) : Option (Int) := if 0 ≤ a1 then (if a1 < (l0.length : Int) then (if (rd l0 a1) ≥ 65 then (yaml_as_hex.j0 k (rd l0 a1) (decide ((rd l0 a1) ≤ 70))) else (yaml_as_hex.j0 k (rd l0 a1) false)) else (none)) else (none)
theorem yaml_as_hex.mono_l : ∀ k, (∀ y0 y1, LeO (yaml_as_hex.j0 k y0 y1) (yaml_as_hex.j0 (k + 1) y0 y1))
  | 0 => fun _ _ r h => by simp [yaml_as_hex.j0] at h
  | k + 1 => by
    have ih0 := yaml_as_hex.mono_l k
    · intro y0 y1
      unfold yaml_as_hex.j0
      repeat' first
      | (with_reducible exact ih0 _ _)
      | (with_reducible exact LeO.refl _)
      | (with_reducible exact LeO.none _)
      | (with_reducible refine LeO.ite ?_ ?_)
      | (with_reducible refine LeO.bind ?_ (fun _ => ?_))
      | exact ih0 _ _
      | exact LeO.none _
      | refine LeO.ite ?_ ?_
      | refine LeO.bind ?_ (fun _ => ?_)
theorem yaml_as_hex.mono : ∀ a0 a1 k, LeO (yaml_as_hex.f k a0 a1) (yaml_as_hex.f (k + 1) a0 a1) := by
  intro a0 a1 k
  have ih0 := yaml_as_hex.mono_l k
  unfold yaml_as_hex.f
  repeat' first
      | (with_reducible exact ih0 _ _)
      | (with_reducible exact LeO.refl _)
      | (with_reducible exact LeO.none _)
      | (with_reducible refine LeO.ite ?_ ?_)
      | (with_reducible refine LeO.bind ?_ (fun _ => ?_))
      | exact ih0 _ _
      | exact LeO.none _
      | refine LeO.ite ?_ ?_
      | refine LeO.bind ?_ (fun _ => ?_)
set_option maxHeartbeats 8000000 in
set_option maxRecDepth 100000 in
theorem yaml_as_hex.calls (k : Nat) (A0 : Option Addr) (c0 : Nat) (l0 : List Int) (a1 : Int) (r : Int) (w : World) (hr0 : Kd.C (Kd.int .u8) w A0 l0.length l0) (hc0 : l0.length ≤ c0) (h : yaml_as_hex.f k l0 a1 = some r) :
    Calls Try.prog 50 #[.slice A0 l0.length c0, .int .i64 a1] w fun e w' => e = .returned (.int .i64 r) ∧ Drawn0 w w' := by
  have HR0 := Aside0.mk hr0
  have HC0 := Aside0.mk hc0
  clear hr0 hc0
  have H : (if 0 ≤ a1 then (if a1 < (l0.length : Int) then (if (rd l0 a1) ≥ 65 then (yaml_as_hex.j0 k (rd l0 a1) (decide ((rd l0 a1) ≤ 70))) else (yaml_as_hex.j0 k (rd l0 a1) false)) else (none)) else (none)) = some r := h
  clear h
  by_cases c3 : 0 ≤ a1
  · rw [if_pos c3] at H
    have c3b0 : decide (0 ≤ a1) = true := decide_eq_true c3
    clear c3
    by_cases c4 : a1 < (l0.length : Int)
    · rw [if_pos c4] at H
      have c4b0 : decide (a1 < (l0.length : Int)) = true := decide_eq_true c4
      clear c4
      have HC5 := Aside0.mk H
      clear H
      have p104 : 0 ≤ (a1 : Int) := of_decide_eq_true (by first | (with_reducible assumption) | assumption)
      have q104 : a1 < (l0.length : Int) := of_decide_eq_true (by first | (with_reducible assumption) | assumption)
      obtain ⟨ad104, e104, hx104_0⟩ := Kd.at_int HR0.out a1 p104 q104
      cases e104
      replace p104 := eq_true p104
      replace q104 := eq_true q104
      go_enter Try.func50, Try.ntmps50
      go_upto_region 2 with (fail)
      go_cut [15] (fun v15 wc => ∃ (kq : Nat) (x15_4 : Bool), v15 = .bool x15_4 ∧ Aside0 (yaml_as_hex.j0 kq (rd l0 a1) x15_4 = some r) ∧ Aside0 (kq ≤ k) ∧ Drawn0 w wc)
      case first =>
        have H := HC5.out
        clear HC5
        by_cases c6 : (rd l0 a1) ≥ 65
        · rw [if_pos c6] at H
          have c6b0 : decide (65 ≤ (rd l0 a1)) = true := decide_eq_true c6
          clear c6
          (first | rw [c6b0] | (simp only [i64_w, i32_w]; rw [c6b0]) | skip)
          have H' := Aside0.mk H
          clear H
          go_wp2
          go_meet
          case rel => exact ⟨_, (decide ((rd l0 a1) ≤ 70)), (by first | rfl | (simp; done) | (simp [*]; done)), H', ⟨by first | omega | exact Nat.le_refl _⟩, by repeat (first | exact Drawn0.refl _ | apply Drawn0.step)⟩
        · rw [if_neg c6] at H
          have c6b0 : decide (65 ≤ (rd l0 a1)) = false := decide_eq_false c6
          clear c6
          (first | rw [c6b0] | (simp only [i64_w, i32_w]; rw [c6b0]) | skip)
          have H' := Aside0.mk H
          clear H
          go_wp2
          go_meet
          case rel => exact ⟨_, (false), (by first | rfl | (simp; done) | (simp [*]; done)), H', ⟨by first | omega | exact Nat.le_refl _⟩, by repeat (first | exact Drawn0.refl _ | apply Drawn0.step)⟩
      case rest =>
        clear HC5
        try clear p1
        try clear q1
        try clear hx1
        try clear p2
        try clear c3
        try clear c3b0
        try clear c4
        try clear c4b0
        try clear c5
        try clear c6
        try clear c6b0
        try clear hx104_0
        try clear p104
        try clear q104
        obtain ⟨kq, x15_4, rfl, HA, HJ4, ⟨mc4, rfl⟩⟩ := hcut
        cases kq with
        | zero => exact absurd HA.out (by simp [yaml_as_hex.j0])
        | succ kj4 =>
          have H := HA.out
          clear HA
          simp only [yaml_as_hex.j0] at H
          by_cases c7 : x15_4 = true
          · subst c7
            have H1 : (some (wrap64 ((wrap64 ((wrap64 ((rd l0 a1))) - 65)) + 10))) = some r := by rw [if_pos rfl] at H; exact H
            clear H
            have H := H1
            clear H1
            obtain rfl := Option.some.inj H
            go_wp2
            go_ret
            exact ⟨by first | rfl | (simp; done) | (simp [*]; done), by repeat (first | exact Drawn0.refl _ | apply Drawn0.step)⟩
          · replace c7 := Bool.eq_false_iff.mpr c7
            subst c7
            have H1 : (if (rd l0 a1) ≥ 97 then (if (rd l0 a1) ≤ 102 then (some (wrap64 ((wrap64 ((wrap64 ((rd l0 a1))) - 97)) + 10))) else (some (wrap64 ((wrap64 ((rd l0 a1))) - 48)))) else (some (wrap64 ((wrap64 ((rd l0 a1))) - 48)))) = some r := by rw [if_neg (show ¬ (false = true) by decide)] at H; exact H
            clear H
            have H := H1
            clear H1
            by_cases c8 : (rd l0 a1) ≥ 97
            · rw [if_pos c8] at H
              have c8b0 : decide (97 ≤ (rd l0 a1)) = true := decide_eq_true c8
              clear c8
              by_cases c9 : (rd l0 a1) ≤ 102
              · rw [if_pos c9] at H
                have c9b0 : decide ((rd l0 a1) ≤ 102) = true := decide_eq_true c9
                clear c9
                obtain rfl := Option.some.inj H
                go_wp2
                go_ret
                exact ⟨by first | rfl | (simp; done) | (simp [*]; done), by repeat (first | exact Drawn0.refl _ | apply Drawn0.step)⟩
              · rw [if_neg c9] at H
                have c9b0 : decide ((rd l0 a1) ≤ 102) = false := decide_eq_false c9
                clear c9
                obtain rfl := Option.some.inj H
                go_wp2
                go_ret
                exact ⟨by first | rfl | (simp; done) | (simp [*]; done), by repeat (first | exact Drawn0.refl _ | apply Drawn0.step)⟩
            · rw [if_neg c8] at H
              have c8b0 : decide (97 ≤ (rd l0 a1)) = false := decide_eq_false c8
              clear c8
              obtain rfl := Option.some.inj H
              go_wp2
              go_ret
              exact ⟨by first | rfl | (simp; done) | (simp [*]; done), by repeat (first | exact Drawn0.refl _ | apply Drawn0.step)⟩
    · rw [if_neg c4] at H
      exact absurd H (by simp)
  · rw [if_neg c3] at H
    exact absurd H (by simp)

/-! ### yaml_ZzAsHex: function 27 -/
def yaml_ZzAsHex.f (k : Nat) (l0 : List Int) (a1 : Int) : Option (Int) := (yaml_as_hex.f k l0 a1).bind fun t105 => (some t105)
theorem yaml_ZzAsHex.mono : ∀ a0 a1 k, LeO (yaml_ZzAsHex.f k a0 a1) (yaml_ZzAsHex.f (k + 1) a0 a1) := by
  intro a0 a1 k
  unfold yaml_ZzAsHex.f
  repeat' first
      | (with_reducible exact yaml_as_hex.mono _ _ _)
      | (with_reducible exact LeO.refl _)
      | (with_reducible exact LeO.none _)
      | (with_reducible refine LeO.ite ?_ ?_)
      | (with_reducible refine LeO.bind ?_ (fun _ => ?_))
      | exact yaml_as_hex.mono _ _ _
      | exact LeO.none _
      | refine LeO.ite ?_ ?_
      | refine LeO.bind ?_ (fun _ => ?_)
set_option maxHeartbeats 8000000 in
set_option maxRecDepth 100000 in
theorem yaml_ZzAsHex.calls (k : Nat) (A0 : Option Addr) (c0 : Nat) (l0 : List Int) (a1 : Int) (r : Int) (w : World) (hr0 : Kd.C (Kd.int .u8) w A0 l0.length l0) (hc0 : l0.length ≤ c0) (h : yaml_ZzAsHex.f k l0 a1 = some r) :
    Calls Try.prog 27 #[.slice A0 l0.length c0, .int .i64 a1] w fun e w' => e = .returned (.int .i64 r) ∧ Drawn0 w w' := by
  have HR0 := Aside0.mk hr0
  have HC0 := Aside0.mk hc0
  clear hr0 hc0
  have H : ((yaml_as_hex.f k l0 a1).bind fun t105 => (some t105)) = some r := h
  clear h
  replace H := Option.bind_eq_some_iff.mp H
  obtain ⟨t105, A30, H⟩ := H
  replace H : (some t105) = some r := H
  have A3 := Aside0.mk A30
  clear A30
  obtain rfl := Option.some.inj H
  go_enter Try.func27, Try.ntmps27
  go_wp2_with (first | ((with_reducible refine gate_callee (f := 50) rfl ?_); refine goesL_ (some 7) rfl rfl Try.func50 (by kernel_rfl) rfl #[.slice A0 l0.length c0, .int .i64 a1] rfl (by (try simp only [List.map_toArray, List.map_cons, List.map_nil]); first | done | rfl | (simp only [List.length_drop, List.length_take]; rfl)) ?_; (with_reducible refine (yaml_as_hex.calls k _ _ l0 a1 t105 _ ?side1 ?side2 A3.out).mono ?_); (case side1 => repeat (first | exact HR0.out | (with_reducible refine Kd.C_alloc ?_ _) | (with_reducible refine Kd.C_drewN ?_ _) | (with_reducible refine Kd.C_drew ?_))); (case side2 => exact HC0.out); rintro e w' ⟨rfl, ⟨nd, rfl⟩⟩; refine ⟨_, rfl, ?_⟩))
  go_ret
  exact ⟨by first | rfl | (simp; done) | (simp [*]; done), by repeat (first | exact Drawn0.refl _ | apply Drawn0.step)⟩

/-! ### impl_Hex: function 14 -/
def impl_Hex.f (k : Nat) (l0 : List Int) (a1 : Int) : Option (Int) := if a1 < 0 then (some 0) else (if a1 ≥ (l0.length : Int) then (some 0) else ((yaml_ZzAsHex.f k l0 a1).bind fun t106 => (some t106)))
theorem impl_Hex.mono : ∀ a0 a1 k, LeO (impl_Hex.f k a0 a1) (impl_Hex.f (k + 1) a0 a1) := by
  intro a0 a1 k
  unfold impl_Hex.f
  repeat' first
      | (with_reducible exact yaml_ZzAsHex.mono _ _ _)
      | (with_reducible exact LeO.refl _)
      | (with_reducible exact LeO.none _)
      | (with_reducible refine LeO.ite ?_ ?_)
      | (with_reducible refine LeO.bind ?_ (fun _ => ?_))
      | exact yaml_ZzAsHex.mono _ _ _
      | exact LeO.none _
      | refine LeO.ite ?_ ?_
      | refine LeO.bind ?_ (fun _ => ?_)
set_option maxHeartbeats 8000000 in
set_option maxRecDepth 100000 in
theorem impl_Hex.calls (k : Nat) (A0 : Option Addr) (c0 : Nat) (l0 : List Int) (a1 : Int) (r : Int) (w : World) (hr0 : Kd.C (Kd.int .u8) w A0 l0.length l0) (hc0 : l0.length ≤ c0) (h : impl_Hex.f k l0 a1 = some r) :
    Calls Try.prog 14 #[.slice A0 l0.length c0, .int .i64 a1] w fun e w' => e = .returned (.int .i64 r) ∧ Drawn0 w w' := by
  have HR0 := Aside0.mk hr0
  have HC0 := Aside0.mk hc0
  clear hr0 hc0
  have H : (if a1 < 0 then (some 0) else (if a1 ≥ (l0.length : Int) then (some 0) else ((yaml_ZzAsHex.f k l0 a1).bind fun t106 => (some t106)))) = some r := h
  clear h
  by_cases c3 : a1 < 0
  · rw [if_pos c3] at H
    have c3b0 : decide (a1 < 0) = true := decide_eq_true c3
    clear c3
    obtain rfl := Option.some.inj H
    go_enter Try.func14, Try.ntmps14
    go_wp2
    go_ret
    exact ⟨by first | rfl | (simp; done) | (simp [*]; done), by repeat (first | exact Drawn0.refl _ | apply Drawn0.step)⟩
  · rw [if_neg c3] at H
    have c3b0 : decide (a1 < 0) = false := decide_eq_false c3
    clear c3
    by_cases c4 : a1 ≥ (l0.length : Int)
    · rw [if_pos c4] at H
      have c4b0 : decide ((l0.length : Int) ≤ a1) = true := decide_eq_true c4
      clear c4
      obtain rfl := Option.some.inj H
      go_enter Try.func14, Try.ntmps14
      go_wp2
      go_ret
      exact ⟨by first | rfl | (simp; done) | (simp [*]; done), by repeat (first | exact Drawn0.refl _ | apply Drawn0.step)⟩
    · rw [if_neg c4] at H
      have c4b0 : decide ((l0.length : Int) ≤ a1) = false := decide_eq_false c4
      clear c4
      replace H := Option.bind_eq_some_iff.mp H
      obtain ⟨t106, A50, H⟩ := H
      replace H : (some t106) = some r := H
      have A5 := Aside0.mk A50
      clear A50
      obtain rfl := Option.some.inj H
      go_enter Try.func14, Try.ntmps14
      go_wp2_with (first | ((with_reducible refine gate_callee (f := 27) rfl ?_); refine goesL_ (some 15) rfl rfl Try.func27 (by kernel_rfl) rfl #[.slice A0 l0.length c0, .int .i64 a1] rfl (by (try simp only [List.map_toArray, List.map_cons, List.map_nil]); first | done | rfl | (simp only [List.length_drop, List.length_take]; rfl)) ?_; (with_reducible refine (yaml_ZzAsHex.calls k _ _ l0 a1 t106 _ ?side1 ?side2 A5.out).mono ?_); (case side1 => repeat (first | exact HR0.out | (with_reducible refine Kd.C_alloc ?_ _) | (with_reducible refine Kd.C_drewN ?_ _) | (with_reducible refine Kd.C_drew ?_))); (case side2 => exact HC0.out); rintro e w' ⟨rfl, ⟨nd, rfl⟩⟩; refine ⟨_, rfl, ?_⟩))
      go_ret
      exact ⟨by first | rfl | (simp; done) | (simp [*]; done), by repeat (first | exact Drawn0.refl _ | apply Drawn0.step)⟩

/-! ### spec_HexWorth: function 15 -/
mutual
def spec_HexWorth.j0 : Nat → Int → Bool → Option (Int)
  | 0, _, _ => none
  | k + 1, x0, x3 => if x3 = true then (some ((x0 - 48) % 256)) else (if x0 ≥ 97 then (spec_HexWorth.j1 k x0 (decide (x0 ≤ 102))) else (spec_HexWorth.j1 k x0 false))
def spec_HexWorth.j1 : Nat → Int → Bool → Option (Int)
  | 0, _, _ => none
  | k + 1, x0, x13 => if x13 = true then (some (((x0 - 97) % 256) + 10)) else (if x0 ≥ 65 then (if x0 ≤ 70 then (some (((x0 - 65) % 256) + 10)) else (some (-1))) else (some (-1)))
end
def spec_HexWorth.f (k : Nat) (a0 : Int) : Option (Int) := if a0 ≥ 48 then (spec_HexWorth.j0 k a0 (decide (a0 ≤ 57))) else (spec_HexWorth.j0 k a0 false)
theorem spec_HexWorth.mono_l : ∀ k, (∀ y0 y1, LeO (spec_HexWorth.j0 k y0 y1) (spec_HexWorth.j0 (k + 1) y0 y1)) ∧ (∀ y0 y1, LeO (spec_HexWorth.j1 k y0 y1) (spec_HexWorth.j1 (k + 1) y0 y1))
  | 0 => ⟨fun _ _ r h => by simp [spec_HexWorth.j0] at h, fun _ _ r h => by simp [spec_HexWorth.j1] at h⟩
  | k + 1 => by
    obtain ⟨ih0, ih1⟩ := spec_HexWorth.mono_l k
    refine ⟨?_, ?_⟩
    · intro y0 y1
      unfold spec_HexWorth.j0
      repeat' first
      | (with_reducible exact ih0 _ _)
      | (with_reducible exact ih1 _ _)
      | (with_reducible exact LeO.refl _)
      | (with_reducible exact LeO.none _)
      | (with_reducible refine LeO.ite ?_ ?_)
      | (with_reducible refine LeO.bind ?_ (fun _ => ?_))
      | exact ih0 _ _
      | exact ih1 _ _
      | exact LeO.none _
      | refine LeO.ite ?_ ?_
      | refine LeO.bind ?_ (fun _ => ?_)
    · intro y0 y1
      unfold spec_HexWorth.j1
      repeat' first
      | (with_reducible exact ih0 _ _)
      | (with_reducible exact ih1 _ _)
      | (with_reducible exact LeO.refl _)
      | (with_reducible exact LeO.none _)
      | (with_reducible refine LeO.ite ?_ ?_)
      | (with_reducible refine LeO.bind ?_ (fun _ => ?_))
      | exact ih0 _ _
      | exact ih1 _ _
      | exact LeO.none _
      | refine LeO.ite ?_ ?_
      | refine LeO.bind ?_ (fun _ => ?_)
theorem spec_HexWorth.mono : ∀ a0 k, LeO (spec_HexWorth.f k a0) (spec_HexWorth.f (k + 1) a0) := by
  intro a0 k
  obtain ⟨ih0, ih1⟩ := spec_HexWorth.mono_l k
  unfold spec_HexWorth.f
  repeat' first
      | (with_reducible exact ih0 _ _)
      | (with_reducible exact ih1 _ _)
      | (with_reducible exact LeO.refl _)
      | (with_reducible exact LeO.none _)
      | (with_reducible refine LeO.ite ?_ ?_)
      | (with_reducible refine LeO.bind ?_ (fun _ => ?_))
      | exact ih0 _ _
      | exact ih1 _ _
      | exact LeO.none _
      | refine LeO.ite ?_ ?_
      | refine LeO.bind ?_ (fun _ => ?_)
set_option maxHeartbeats 8000000 in
set_option maxRecDepth 100000 in
theorem spec_HexWorth.calls (k : Nat) (a0 : Int) (r : Int) (w : World) (h : spec_HexWorth.f k a0 = some r) :
    Calls Try.prog 15 #[.int .u8 a0] w fun e w' => e = .returned (.int .i64 r) ∧ Drawn0 w w' := by
  have H : (if a0 ≥ 48 then (spec_HexWorth.j0 k a0 (decide (a0 ≤ 57))) else (spec_HexWorth.j0 k a0 false)) = some r := h
  clear h
  have HC2 := Aside0.mk H
  clear H
  go_enter Try.func15, Try.ntmps15
  go_upto_region 1 with (fail)
  go_cut [3] (fun v3 wc => ∃ (kq : Nat) (x3_1 : Bool), v3 = .bool x3_1 ∧ Aside0 (spec_HexWorth.j0 kq a0 x3_1 = some r) ∧ Aside0 (kq ≤ k) ∧ Drawn0 w wc)
  case first =>
    have H := HC2.out
    clear HC2
    by_cases c3 : a0 ≥ 48
    · rw [if_pos c3] at H
      have c3b0 : decide (48 ≤ a0) = true := decide_eq_true c3
      clear c3
      (first | rw [c3b0] | (simp only [i64_w, i32_w]; rw [c3b0]) | skip)
      have H' := Aside0.mk H
      clear H
      go_wp2
      go_meet
      case rel => exact ⟨_, (decide (a0 ≤ 57)), (by first | rfl | (simp; done) | (simp [*]; done)), H', ⟨by first | omega | exact Nat.le_refl _⟩, by repeat (first | exact Drawn0.refl _ | apply Drawn0.step)⟩
    · rw [if_neg c3] at H
      have c3b0 : decide (48 ≤ a0) = false := decide_eq_false c3
      clear c3
      (first | rw [c3b0] | (simp only [i64_w, i32_w]; rw [c3b0]) | skip)
      have H' := Aside0.mk H
      clear H
      go_wp2
      go_meet
      case rel => exact ⟨_, (false), (by first | rfl | (simp; done) | (simp [*]; done)), H', ⟨by first | omega | exact Nat.le_refl _⟩, by repeat (first | exact Drawn0.refl _ | apply Drawn0.step)⟩
  case rest =>
    clear HC2
    try clear c1
    try clear p2
    try clear c3
    try clear c3b0
    obtain ⟨kq, x3_1, rfl, HA, HJ1, ⟨mc1, rfl⟩⟩ := hcut
    cases kq with
    | zero => exact absurd HA.out (by simp [spec_HexWorth.j0])
    | succ kj1 =>
      have H := HA.out
      clear HA
      simp only [spec_HexWorth.j0] at H
      by_cases c4 : x3_1 = true
      · subst c4
        have H1 : (some ((a0 - 48) % 256)) = some r := by rw [if_pos rfl] at H; exact H
        clear H
        have H := H1
        clear H1
        obtain rfl := Option.some.inj H
        go_wp2
        go_ret
        exact ⟨by first | rfl | (simp; done) | (simp [*]; done), by repeat (first | exact Drawn0.refl _ | apply Drawn0.step)⟩
      · replace c4 := Bool.eq_false_iff.mpr c4
        subst c4
        have H1 : (if a0 ≥ 97 then (spec_HexWorth.j1 kj1 a0 (decide (a0 ≤ 102))) else (spec_HexWorth.j1 kj1 a0 false)) = some r := by rw [if_neg (show ¬ (false = true) by decide)] at H; exact H
        clear H
        have H := H1
        clear H1
        have HC5 := Aside0.mk H
        clear H
        go_upto_region 3 with (fail)
        go_cut [13] (fun v13 wc => ∃ (kq : Nat) (x13_4 : Bool), v13 = .bool x13_4 ∧ Aside0 (spec_HexWorth.j1 kq a0 x13_4 = some r) ∧ Aside0 (kq ≤ kj1) ∧ Drawn0 w wc)
        case first =>
          have H := HC5.out
          clear HC5
          by_cases c6 : a0 ≥ 97
          · rw [if_pos c6] at H
            have c6b0 : decide (97 ≤ a0) = true := decide_eq_true c6
            clear c6
            (first | rw [c6b0] | (simp only [i64_w, i32_w]; rw [c6b0]) | skip)
            have H' := Aside0.mk H
            clear H
            go_wp2
            go_meet
            case rel => exact ⟨_, (decide (a0 ≤ 102)), (by first | rfl | (simp; done) | (simp [*]; done)), H', ⟨by have := HJ1.out; first | omega | exact Nat.le_refl _⟩, by repeat (first | exact Drawn0.refl _ | apply Drawn0.step)⟩
          · rw [if_neg c6] at H
            have c6b0 : decide (97 ≤ a0) = false := decide_eq_false c6
            clear c6
            (first | rw [c6b0] | (simp only [i64_w, i32_w]; rw [c6b0]) | skip)
            have H' := Aside0.mk H
            clear H
            go_wp2
            go_meet
            case rel => exact ⟨_, (false), (by first | rfl | (simp; done) | (simp [*]; done)), H', ⟨by have := HJ1.out; first | omega | exact Nat.le_refl _⟩, by repeat (first | exact Drawn0.refl _ | apply Drawn0.step)⟩
        case rest =>
          clear HC5
          try clear c1
          try clear p2
          try clear c3
          try clear c3b0
          try clear c4
          try clear c6
          try clear c6b0
          try clear p2
          obtain ⟨kq, x13_4, rfl, HA, HJ4, ⟨mc4, rfl⟩⟩ := hcut
          cases kq with
          | zero => exact absurd HA.out (by simp [spec_HexWorth.j1])
          | succ kj4 =>
            have H := HA.out
            clear HA
            simp only [spec_HexWorth.j1] at H
            by_cases c7 : x13_4 = true
            · subst c7
              have H1 : (some (((a0 - 97) % 256) + 10)) = some r := by rw [if_pos rfl] at H; exact H
              clear H
              have H := H1
              clear H1
              obtain rfl := Option.some.inj H
              go_wp2
              go_ret
              exact ⟨by first | rfl | (simp; done) | (simp [*]; done), by repeat (first | exact Drawn0.refl _ | apply Drawn0.step)⟩
            · replace c7 := Bool.eq_false_iff.mpr c7
              subst c7
              have H1 : (if a0 ≥ 65 then (if a0 ≤ 70 then (some (((a0 - 65) % 256) + 10)) else (some (-1))) else (some (-1))) = some r := by rw [if_neg (show ¬ (false = true) by decide)] at H; exact H
              clear H
              have H := H1
              clear H1
              by_cases c8 : a0 ≥ 65
              · rw [if_pos c8] at H
                have c8b0 : decide (65 ≤ a0) = true := decide_eq_true c8
                clear c8
                by_cases c9 : a0 ≤ 70
                · rw [if_pos c9] at H
                  have c9b0 : decide (a0 ≤ 70) = true := decide_eq_true c9
                  clear c9
                  obtain rfl := Option.some.inj H
                  go_wp2
                  go_ret
                  exact ⟨by first | rfl | (simp; done) | (simp [*]; done), by repeat (first | exact Drawn0.refl _ | apply Drawn0.step)⟩
                · rw [if_neg c9] at H
                  have c9b0 : decide (a0 ≤ 70) = false := decide_eq_false c9
                  clear c9
                  obtain rfl := Option.some.inj H
                  go_wp2
                  go_ret
                  exact ⟨by first | rfl | (simp; done) | (simp [*]; done), by repeat (first | exact Drawn0.refl _ | apply Drawn0.step)⟩
              · rw [if_neg c8] at H
                have c8b0 : decide (65 ≤ a0) = false := decide_eq_false c8
                clear c8
                obtain rfl := Option.some.inj H
                go_wp2
                go_ret
                exact ⟨by first | rfl | (simp; done) | (simp [*]; done), by repeat (first | exact Drawn0.refl _ | apply Drawn0.step)⟩

/-! ### laws_FnDigits: function 5 -/
def laws_FnDigits.j0 : Nat → List Int → Int → Bool → Option (Bool)
  | 0, _, _, _ => none
  | k + 1, x0, x1, x16 => if x16 = true then ((impl_Digit.f x0 x1).bind fun t107 => (if t107 = 0 then ((impl_Hex.f k x0 x1).bind fun t108 => (some (t108 == 0))) else (some false))) else (if 0 ≤ x1 then (if x1 < (x0.length : Int) then ((spec_HexWorth.f k (rd x0 x1)).bind fun t110 => (if t110 < 0 then (some true) else ((impl_Hex.f k x0 x1).bind fun t111 => (if t111 = t110 then (if (rd x0 x1) > 57 then (some true) else ((impl_Digit.f x0 x1).bind fun t113 => (some (t113 == t110)))) else (some false))))) else (none)) else (none))
def laws_FnDigits.f (k : Nat) (l0 : List Int) (a1 : Int) : Option (Bool) := if (l0.length : Int) > 2147483647 then (some true) else (if a1 < 0 then (laws_FnDigits.j0 k l0 a1 true) else (laws_FnDigits.j0 k l0 a1 (decide (a1 ≥ (l0.length : Int)))))
theorem laws_FnDigits.mono_l : ∀ k, (∀ y0 y1 y2, LeO (laws_FnDigits.j0 k y0 y1 y2) (laws_FnDigits.j0 (k + 1) y0 y1 y2))
  | 0 => fun _ _ _ r h => by simp [laws_FnDigits.j0] at h
  | k + 1 => by
    have ih0 := laws_FnDigits.mono_l k
    · intro y0 y1 y2
      unfold laws_FnDigits.j0
      repeat' first
      | (with_reducible exact ih0 _ _ _)
      | (with_reducible exact impl_Hex.mono _ _ _)
      | (with_reducible exact spec_HexWorth.mono _ _)
      | (with_reducible exact LeO.refl _)
      | (with_reducible exact LeO.none _)
      | (with_reducible refine LeO.ite ?_ ?_)
      | (with_reducible refine LeO.bind ?_ (fun _ => ?_))
      | exact ih0 _ _ _
      | exact impl_Hex.mono _ _ _
      | exact spec_HexWorth.mono _ _
      | exact LeO.none _
      | refine LeO.ite ?_ ?_
      | refine LeO.bind ?_ (fun _ => ?_)
theorem laws_FnDigits.mono : ∀ a0 a1 k, LeO (laws_FnDigits.f k a0 a1) (laws_FnDigits.f (k + 1) a0 a1) := by
  intro a0 a1 k
  have ih0 := laws_FnDigits.mono_l k
  unfold laws_FnDigits.f
  repeat' first
      | (with_reducible exact ih0 _ _ _)
      | (with_reducible exact impl_Hex.mono _ _ _)
      | (with_reducible exact spec_HexWorth.mono _ _)
      | (with_reducible exact LeO.refl _)
      | (with_reducible exact LeO.none _)
      | (with_reducible refine LeO.ite ?_ ?_)
      | (with_reducible refine LeO.bind ?_ (fun _ => ?_))
      | exact ih0 _ _ _
      | exact impl_Hex.mono _ _ _
      | exact spec_HexWorth.mono _ _
      | exact LeO.none _
      | refine LeO.ite ?_ ?_
      | refine LeO.bind ?_ (fun _ => ?_)
set_option maxHeartbeats 8000000 in
set_option maxRecDepth 100000 in
theorem laws_FnDigits.calls (k : Nat) (A0 : Option Addr) (c0 : Nat) (l0 : List Int) (a1 : Int) (r : Bool) (w : World) (hr0 : Kd.C (Kd.int .u8) w A0 l0.length l0) (hc0 : l0.length ≤ c0) (h : laws_FnDigits.f k l0 a1 = some r) :
    Calls Try.prog 5 #[.slice A0 l0.length c0, .int .i64 a1] w fun e w' => e = .returned (.bool r) ∧ Drawn0 w w' := by
  have HR0 := Aside0.mk hr0
  have HC0 := Aside0.mk hc0
  clear hr0 hc0
  have H : (if (l0.length : Int) > 2147483647 then (some true) else (if a1 < 0 then (laws_FnDigits.j0 k l0 a1 true) else (laws_FnDigits.j0 k l0 a1 (decide (a1 ≥ (l0.length : Int)))))) = some r := h
  clear h
  by_cases c3 : (l0.length : Int) > 2147483647
  · rw [if_pos c3] at H
    have c3b0 : decide (2147483647 < (l0.length : Int)) = true := decide_eq_true c3
    have c3b1 : decide (2147483647 < l0.length) = true := decide_eq_true (by omega)
    clear c3
    obtain rfl := Option.some.inj H
    go_enter Try.func5, Try.ntmps5
    go_wp2
    go_ret
    exact ⟨by first | rfl | (simp; done) | (simp [*]; done), by repeat (first | exact Drawn0.refl _ | apply Drawn0.step)⟩
  · rw [if_neg c3] at H
    have c3b0 : decide (2147483647 < (l0.length : Int)) = false := decide_eq_false c3
    have c3b1 : decide (2147483647 < l0.length) = false := decide_eq_false (by omega)
    clear c3
    have HC4 := Aside0.mk H
    clear H
    go_enter Try.func5, Try.ntmps5
    go_upto_region 3 with (fail)
    go_cut [16] (fun v16 wc => ∃ (kq : Nat) (x16_3 : Bool), v16 = .bool x16_3 ∧ Aside0 (laws_FnDigits.j0 kq l0 a1 x16_3 = some r) ∧ Aside0 (kq ≤ k) ∧ Drawn0 w wc)
    case first =>
      have H := HC4.out
      clear HC4
      by_cases c5 : a1 < 0
      · rw [if_pos c5] at H
        have c5b0 : decide (a1 < 0) = true := decide_eq_true c5
        clear c5
        (first | rw [c5b0] | (simp only [i64_w, i32_w]; rw [c5b0]) | skip)
        have H' := Aside0.mk H
        clear H
        go_wp2
        go_meet
        case rel => exact ⟨_, (true), (by first | rfl | (simp; done) | (simp [*]; done)), H', ⟨by first | omega | exact Nat.le_refl _⟩, by repeat (first | exact Drawn0.refl _ | apply Drawn0.step)⟩
      · rw [if_neg c5] at H
        have c5b0 : decide (a1 < 0) = false := decide_eq_false c5
        clear c5
        (first | rw [c5b0] | (simp only [i64_w, i32_w]; rw [c5b0]) | skip)
        have H' := Aside0.mk H
        clear H
        go_wp2
        go_meet
        case rel => exact ⟨_, (decide (a1 ≥ (l0.length : Int))), (by first | rfl | (simp; done) | (simp [*]; done)), H', ⟨by first | omega | exact Nat.le_refl _⟩, by repeat (first | exact Drawn0.refl _ | apply Drawn0.step)⟩
    case rest =>
      clear HC4
      try clear p2
      try clear c3
      try clear c3b0
      try clear c3b1
      try clear c5
      try clear c5b0
      obtain ⟨kq, x16_3, rfl, HA, HJ3, ⟨mc3, rfl⟩⟩ := hcut
      cases kq with
      | zero => exact absurd HA.out (by simp [laws_FnDigits.j0])
      | succ kj3 =>
        have H := HA.out
        clear HA
        simp only [laws_FnDigits.j0] at H
        by_cases c6 : x16_3 = true
        · subst c6
          have H1 : ((impl_Digit.f l0 a1).bind fun t107 => (if t107 = 0 then ((impl_Hex.f kj3 l0 a1).bind fun t108 => (some (t108 == 0))) else (some false))) = some r := by rw [if_pos rfl] at H; exact H
          clear H
          have H := H1
          clear H1
          replace H := Option.bind_eq_some_iff.mp H
          obtain ⟨t107, A70, H⟩ := H
          replace H : (if t107 = 0 then ((impl_Hex.f kj3 l0 a1).bind fun t108 => (some (t108 == 0))) else (some false)) = some r := H
          have A7 := Aside0.mk A70
          clear A70
          by_cases c8 : t107 = 0
          · rw [if_pos c8] at H
            have c8b0 : (t107 == 0) = true := beq_iff_eq.mpr c8
            have c8b1 : (t107 != 0) = false := bne_eq_false_iff_eq.mpr c8
            clear c8
            replace H := Option.bind_eq_some_iff.mp H
            obtain ⟨t108, A90, H⟩ := H
            replace H : (some (t108 == 0)) = some r := H
            have A9 := Aside0.mk A90
            clear A90
            obtain rfl := Option.some.inj H
            go_wp2_with (first | ((with_reducible refine gate_callee (f := 13) rfl ?_); refine goesL_ (some 19) rfl rfl Try.func13 (by kernel_rfl) rfl #[.slice A0 l0.length c0, .int .i64 a1] rfl (by (try simp only [List.map_toArray, List.map_cons, List.map_nil]); first | done | rfl | (simp only [List.length_drop, List.length_take]; rfl)) ?_; (with_reducible refine (impl_Digit.calls _ _ l0 a1 t107 _ ?side1 ?side2 A7.out).mono ?_); (case side1 => repeat (first | exact HR0.out | (with_reducible refine Kd.C_alloc ?_ _) | (with_reducible refine Kd.C_drewN ?_ _) | (with_reducible refine Kd.C_drew ?_))); (case side2 => exact HC0.out); rintro e w' ⟨rfl, ⟨nd, rfl⟩⟩; refine ⟨_, rfl, ?_⟩) | (go_at_call 14; (with_reducible refine (impl_Hex.calls kj3 _ _ l0 a1 t108 _ ?side1 ?side2 A9.out).mono ?_); (case side1 => repeat (first | exact HR0.out | (with_reducible refine Kd.C_alloc ?_ _) | (with_reducible refine Kd.C_drewN ?_ _) | (with_reducible refine Kd.C_drew ?_))); (case side2 => exact HC0.out); rintro e w' ⟨rfl, ⟨nd, rfl⟩⟩))
            go_ret
            exact ⟨by first | rfl | (simp; done) | (simp [*]; done), by repeat (first | exact Drawn0.refl _ | apply Drawn0.step)⟩
          · rw [if_neg c8] at H
            have c8b0 : (t107 == 0) = false := beq_eq_false_iff_ne.mpr c8
            have c8b1 : (t107 != 0) = true := bne_iff_ne.mpr c8
            obtain rfl := Option.some.inj H
            go_wp2_with (first | ((with_reducible refine gate_callee (f := 13) rfl ?_); refine goesL_ (some 19) rfl rfl Try.func13 (by kernel_rfl) rfl #[.slice A0 l0.length c0, .int .i64 a1] rfl (by (try simp only [List.map_toArray, List.map_cons, List.map_nil]); first | done | rfl | (simp only [List.length_drop, List.length_take]; rfl)) ?_; (with_reducible refine (impl_Digit.calls _ _ l0 a1 t107 _ ?side1 ?side2 A7.out).mono ?_); (case side1 => repeat (first | exact HR0.out | (with_reducible refine Kd.C_alloc ?_ _) | (with_reducible refine Kd.C_drewN ?_ _) | (with_reducible refine Kd.C_drew ?_))); (case side2 => exact HC0.out); rintro e w' ⟨rfl, ⟨nd, rfl⟩⟩; refine ⟨_, rfl, ?_⟩))
            go_ret
            exact ⟨by first | rfl | (simp; done) | (simp [*]; done), by repeat (first | exact Drawn0.refl _ | apply Drawn0.step)⟩
        · replace c6 := Bool.eq_false_iff.mpr c6
          subst c6
          have H1 : (if 0 ≤ a1 then (if a1 < (l0.length : Int) then ((spec_HexWorth.f kj3 (rd l0 a1)).bind fun t110 => (if t110 < 0 then (some true) else ((impl_Hex.f kj3 l0 a1).bind fun t111 => (if t111 = t110 then (if (rd l0 a1) > 57 then (some true) else ((impl_Digit.f l0 a1).bind fun t113 => (some (t113 == t110)))) else (some false))))) else (none)) else (none)) = some r := by rw [if_neg (show ¬ (false = true) by decide)] at H; exact H
          clear H
          have H := H1
          clear H1
          by_cases c10 : 0 ≤ a1
          · rw [if_pos c10] at H
            have c10b0 : decide (0 ≤ a1) = true := decide_eq_true c10
            clear c10
            by_cases c11 : a1 < (l0.length : Int)
            · rw [if_pos c11] at H
              have c11b0 : decide (a1 < (l0.length : Int)) = true := decide_eq_true c11
              clear c11
              replace H := Option.bind_eq_some_iff.mp H
              obtain ⟨t110, A120, H⟩ := H
              replace H : (if t110 < 0 then (some true) else ((impl_Hex.f kj3 l0 a1).bind fun t111 => (if t111 = t110 then (if (rd l0 a1) > 57 then (some true) else ((impl_Digit.f l0 a1).bind fun t113 => (some (t113 == t110)))) else (some false)))) = some r := H
              have A12 := Aside0.mk A120
              clear A120
              by_cases c13 : t110 < 0
              · rw [if_pos c13] at H
                have c13b0 : decide (t110 < 0) = true := decide_eq_true c13
                clear c13
                obtain rfl := Option.some.inj H
                have p109 : 0 ≤ (a1 : Int) := of_decide_eq_true (by first | (with_reducible assumption) | assumption)
                have q109 : a1 < (l0.length : Int) := of_decide_eq_true (by first | (with_reducible assumption) | assumption)
                obtain ⟨ad109, e109, hx109_0⟩ := Kd.at_int HR0.out a1 p109 q109
                cases e109
                replace p109 := eq_true p109
                replace q109 := eq_true q109
                go_wp2_with (first | ((with_reducible refine gate_callee (f := 15) rfl ?_); refine goesL_ (some 31) rfl rfl Try.func15 (by kernel_rfl) rfl #[.int .u8 (rd l0 a1)] rfl (by (try simp only [List.map_toArray, List.map_cons, List.map_nil]); first | done | rfl | (simp only [List.length_drop, List.length_take]; rfl)) ?_; (with_reducible refine (spec_HexWorth.calls kj3 (rd l0 a1) t110 _ A12.out).mono ?_); rintro e w' ⟨rfl, ⟨nd, rfl⟩⟩; refine ⟨_, rfl, ?_⟩))
                go_ret
                exact ⟨by first | rfl | (simp; done) | (simp [*]; done), by repeat (first | exact Drawn0.refl _ | apply Drawn0.step)⟩
              · rw [if_neg c13] at H
                have c13b0 : decide (t110 < 0) = false := decide_eq_false c13
                clear c13
                replace H := Option.bind_eq_some_iff.mp H
                obtain ⟨t111, A140, H⟩ := H
                replace H : (if t111 = t110 then (if (rd l0 a1) > 57 then (some true) else ((impl_Digit.f l0 a1).bind fun t113 => (some (t113 == t110)))) else (some false)) = some r := H
                have A14 := Aside0.mk A140
                clear A140
                by_cases c15 : t111 = t110
                · rw [if_pos c15] at H
                  have c15b0 : (t111 == t110) = true := beq_iff_eq.mpr c15
                  have c15b1 : (t111 != t110) = false := bne_eq_false_iff_eq.mpr c15
                  clear c15
                  by_cases c16 : (rd l0 a1) > 57
                  · rw [if_pos c16] at H
                    have c16b0 : decide (57 < (rd l0 a1)) = true := decide_eq_true c16
                    clear c16
                    obtain rfl := Option.some.inj H
                    have p109 : 0 ≤ (a1 : Int) := of_decide_eq_true (by first | (with_reducible assumption) | assumption)
                    have q109 : a1 < (l0.length : Int) := of_decide_eq_true (by first | (with_reducible assumption) | assumption)
                    obtain ⟨ad109, e109, hx109_0⟩ := Kd.at_int HR0.out a1 p109 q109
                    cases e109
                    replace p109 := eq_true p109
                    replace q109 := eq_true q109
                    go_wp2_with (first | ((with_reducible refine gate_callee (f := 15) rfl ?_); refine goesL_ (some 31) rfl rfl Try.func15 (by kernel_rfl) rfl #[.int .u8 (rd l0 a1)] rfl (by (try simp only [List.map_toArray, List.map_cons, List.map_nil]); first | done | rfl | (simp only [List.length_drop, List.length_take]; rfl)) ?_; (with_reducible refine (spec_HexWorth.calls kj3 (rd l0 a1) t110 _ A12.out).mono ?_); rintro e w' ⟨rfl, ⟨nd, rfl⟩⟩; refine ⟨_, rfl, ?_⟩) | ((with_reducible refine gate_callee (f := 14) rfl ?_); refine goesL_ (some 36) rfl rfl Try.func14 (by kernel_rfl) rfl #[.slice (some ad109) l0.length c0, .int .i64 a1] rfl (by (try simp only [List.map_toArray, List.map_cons, List.map_nil]); first | done | rfl | (simp only [List.length_drop, List.length_take]; rfl)) ?_; (with_reducible refine (impl_Hex.calls kj3 _ _ l0 a1 t111 _ ?side1 ?side2 A14.out).mono ?_); (case side1 => repeat (first | exact HR0.out | (with_reducible refine Kd.C_alloc ?_ _) | (with_reducible refine Kd.C_drewN ?_ _) | (with_reducible refine Kd.C_drew ?_))); (case side2 => exact HC0.out); rintro e w' ⟨rfl, ⟨nd, rfl⟩⟩; refine ⟨_, rfl, ?_⟩; have p112 : 0 ≤ (a1 : Int) := of_decide_eq_true (by first | (with_reducible assumption) | assumption); have q112 : a1 < (l0.length : Int) := of_decide_eq_true (by first | (with_reducible assumption) | assumption); obtain ⟨ad112, e112, hx112_0⟩ := Kd.at_int HR0.out a1 p112 q112; obtain rfl : ad109 = ad112 := (by injection e112); replace p112 := eq_true p112; replace q112 := eq_true q112))
                    go_ret
                    exact ⟨by first | rfl | (simp; done) | (simp [*]; done), by repeat (first | exact Drawn0.refl _ | apply Drawn0.step)⟩
                  · rw [if_neg c16] at H
                    have c16b0 : decide (57 < (rd l0 a1)) = false := decide_eq_false c16
                    clear c16
                    replace H := Option.bind_eq_some_iff.mp H
                    obtain ⟨t113, A170, H⟩ := H
                    replace H : (some (t113 == t110)) = some r := H
                    have A17 := Aside0.mk A170
                    clear A170
                    obtain rfl := Option.some.inj H
                    have p109 : 0 ≤ (a1 : Int) := of_decide_eq_true (by first | (with_reducible assumption) | assumption)
                    have q109 : a1 < (l0.length : Int) := of_decide_eq_true (by first | (with_reducible assumption) | assumption)
                    obtain ⟨ad109, e109, hx109_0⟩ := Kd.at_int HR0.out a1 p109 q109
                    cases e109
                    replace p109 := eq_true p109
                    replace q109 := eq_true q109
                    go_wp2_with (first | ((with_reducible refine gate_callee (f := 15) rfl ?_); refine goesL_ (some 31) rfl rfl Try.func15 (by kernel_rfl) rfl #[.int .u8 (rd l0 a1)] rfl (by (try simp only [List.map_toArray, List.map_cons, List.map_nil]); first | done | rfl | (simp only [List.length_drop, List.length_take]; rfl)) ?_; (with_reducible refine (spec_HexWorth.calls kj3 (rd l0 a1) t110 _ A12.out).mono ?_); rintro e w' ⟨rfl, ⟨nd, rfl⟩⟩; refine ⟨_, rfl, ?_⟩) | ((with_reducible refine gate_callee (f := 14) rfl ?_); refine goesL_ (some 36) rfl rfl Try.func14 (by kernel_rfl) rfl #[.slice (some ad109) l0.length c0, .int .i64 a1] rfl (by (try simp only [List.map_toArray, List.map_cons, List.map_nil]); first | done | rfl | (simp only [List.length_drop, List.length_take]; rfl)) ?_; (with_reducible refine (impl_Hex.calls kj3 _ _ l0 a1 t111 _ ?side1 ?side2 A14.out).mono ?_); (case side1 => repeat (first | exact HR0.out | (with_reducible refine Kd.C_alloc ?_ _) | (with_reducible refine Kd.C_drewN ?_ _) | (with_reducible refine Kd.C_drew ?_))); (case side2 => exact HC0.out); rintro e w' ⟨rfl, ⟨nd, rfl⟩⟩; refine ⟨_, rfl, ?_⟩; have p112 : 0 ≤ (a1 : Int) := of_decide_eq_true (by first | (with_reducible assumption) | assumption); have q112 : a1 < (l0.length : Int) := of_decide_eq_true (by first | (with_reducible assumption) | assumption); obtain ⟨ad112, e112, hx112_0⟩ := Kd.at_int HR0.out a1 p112 q112; obtain rfl : ad109 = ad112 := (by injection e112); replace p112 := eq_true p112; replace q112 := eq_true q112) | (go_at_call 13; (with_reducible refine (impl_Digit.calls _ _ l0 a1 t113 _ ?side1 ?side2 A17.out).mono ?_); (case side1 => repeat (first | exact HR0.out | (with_reducible refine Kd.C_alloc ?_ _) | (with_reducible refine Kd.C_drewN ?_ _) | (with_reducible refine Kd.C_drew ?_))); (case side2 => exact HC0.out); rintro e w' ⟨rfl, ⟨nd, rfl⟩⟩))
                    go_ret
                    exact ⟨by first | rfl | (simp; done) | (simp [*]; done), by repeat (first | exact Drawn0.refl _ | apply Drawn0.step)⟩
                · rw [if_neg c15] at H
                  have c15b0 : (t111 == t110) = false := beq_eq_false_iff_ne.mpr c15
                  have c15b1 : (t111 != t110) = true := bne_iff_ne.mpr c15
                  obtain rfl := Option.some.inj H
                  have p109 : 0 ≤ (a1 : Int) := of_decide_eq_true (by first | (with_reducible assumption) | assumption)
                  have q109 : a1 < (l0.length : Int) := of_decide_eq_true (by first | (with_reducible assumption) | assumption)
                  obtain ⟨ad109, e109, hx109_0⟩ := Kd.at_int HR0.out a1 p109 q109
                  cases e109
                  replace p109 := eq_true p109
                  replace q109 := eq_true q109
                  go_wp2_with (first | ((with_reducible refine gate_callee (f := 15) rfl ?_); refine goesL_ (some 31) rfl rfl Try.func15 (by kernel_rfl) rfl #[.int .u8 (rd l0 a1)] rfl (by (try simp only [List.map_toArray, List.map_cons, List.map_nil]); first | done | rfl | (simp only [List.length_drop, List.length_take]; rfl)) ?_; (with_reducible refine (spec_HexWorth.calls kj3 (rd l0 a1) t110 _ A12.out).mono ?_); rintro e w' ⟨rfl, ⟨nd, rfl⟩⟩; refine ⟨_, rfl, ?_⟩) | ((with_reducible refine gate_callee (f := 14) rfl ?_); refine goesL_ (some 36) rfl rfl Try.func14 (by kernel_rfl) rfl #[.slice (some ad109) l0.length c0, .int .i64 a1] rfl (by (try simp only [List.map_toArray, List.map_cons, List.map_nil]); first | done | rfl | (simp only [List.length_drop, List.length_take]; rfl)) ?_; (with_reducible refine (impl_Hex.calls kj3 _ _ l0 a1 t111 _ ?side1 ?side2 A14.out).mono ?_); (case side1 => repeat (first | exact HR0.out | (with_reducible refine Kd.C_alloc ?_ _) | (with_reducible refine Kd.C_drewN ?_ _) | (with_reducible refine Kd.C_drew ?_))); (case side2 => exact HC0.out); rintro e w' ⟨rfl, ⟨nd, rfl⟩⟩; refine ⟨_, rfl, ?_⟩))
                  go_ret
                  exact ⟨by first | rfl | (simp; done) | (simp [*]; done), by repeat (first | exact Drawn0.refl _ | apply Drawn0.step)⟩
            · rw [if_neg c11] at H
              exact absurd H (by simp)
          · rw [if_neg c10] at H
            exact absurd H (by simp)

/-- THE ONE PURE STATEMENT of laws_FnDigits: yours. -/
def laws_FnDigits.Pure : Prop := ∀ (l0 : List Int) (a1 : Int), l0.length ≤ maxLen → l0.length * 1 ≤ 140737488351232 → (∀ x ∈ l0, (Lit.int .u8 x).wf = true) → (Lit.int .i64 a1).wf = true → ∃ k, laws_FnDigits.f k l0 a1 = some true
theorem laws_FnDigits.walk (P : laws_FnDigits.Pure) (a0 : Option Addr) (len0 cap0 : Nat) (z0 : List Int) (a1 : Int) (w : World) (w0 : (a0 = none ∧ len0 = 0 ∧ cap0 = 0 ∧ z0 = []) ∨ ∃ x, a0 = some x ∧ len0 ≤ cap0 ∧ cap0 ≤ maxLen ∧ z0.length = cap0 ∧ (∀ i, i < z0.length → w.cell? (x.add i) = some (.int .u8 (z0.getD i 0))) ∧ ∀ n ∈ z0, (Lit.int .u8 n).wf = true) (y0 : len0 * 1 ≤ 140737488351232) (w1 : (Lit.int .i64 a1).wf = true) :
    Calls Try.prog 5 #[.slice a0 len0 cap0, .int .i64 a1] w fun e w' => e = .returned (.bool true) ∧ Below w.heap.size w w' := by
  obtain ⟨l0, rfl, hr0, hm0, hw0, hc0⟩ := ReadsInt.ofRowC w0
  obtain ⟨k, h⟩ := P l0 a1 hm0 y0 hw0 w1
  refine (laws_FnDigits.calls k _ _ l0 a1 true w (Kd.C_of_reads (d := (0 : Int)) (h1 := fun _ => rfl) hr0) hc0 h).mono ?_
  rintro e w' ⟨rfl, hd⟩
  exact ⟨rfl, hd.below⟩

end Go.Proofs.YtacmdmbdfkjhmaaR.PFnDigits
