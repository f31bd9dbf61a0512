/- The form of a number of base 60, as the package and the reference tell it, and the law over both. For texts of at most 1000 bytes; longer texts are let by. -/
import Derived.Test.YtacmdmbdfkjhmaaRSixtyB
namespace Go.Proofs.YtacmdmbdfkjhmaaR.Sixty
open Go.RowKit
def b60 (s : ByteArray) : Bool := if s.size = 0 then false else if bt s 0 = 43 ∨ bt s 0 = 45 then road s 1 else road s 0
/-- The answer is some truth value; if it is no, no colon stands in the text. -/
def Told (s : ByteArray) (w : World) (e : Ending) (w' : World) : Prop := ∃ b : Bool, e = .returned (.bool b) ∧ (b = false → ∀ j, j < s.size → bt s j ≠ 58) ∧ w = w'
def At (s : ByteArray) (w : World) (e : Ending) (w' : World) : Prop := ∃ i : Int, e = .returned (.int .i64 i) ∧ (i < 0 → ∀ j, j < s.size → bt s j ≠ 58) ∧ w = w'
theorem ext_one (s : ByteArray) (i : Nat) (hi : i < s.size) : (s.extract i (i + 1)).toList = [s[i]] := by
  rw [Lib.extract_toList]
  have hl : i < s.data.toList.length := by simpa using hi
  rw [show i + 1 - i = 1 by omega, List.drop_eq_getElem_cons hl]
  simp only [List.take_succ_cons, List.take_zero]
  rfl
theorem colon_list : (⟨#[58]⟩ : ByteArray).toList = [58] := by rw [Lib.toList_data]
theorem colon_size : (⟨#[58]⟩ : ByteArray).size = 1 := rfl
set_option maxHeartbeats 400000 in
theorem index_any (s : ByteArray) (w : World) (hs : s.size ≤ 1000) : Calls Try.prog 74 #[.string s, .string ⟨#[58]⟩] w (At s w) := by
  have t1 := colon_list
  have t2 := colon_size
  go_enter Try.func74, Try.ntmps74
  go_wp2
  go_loop [5] (fun i => ∃ k : Nat, k ≤ s.size ∧ i = .int .i64 k ∧ ∀ j, j < k → bt s j ≠ 58) (fun i => s.size - (intOf i).toNat)
  case atStart => exact ⟨0, Nat.zero_le _, rfl, fun j h => by omega⟩
  case round =>
    obtain ⟨k, hk, rfl, hno⟩ := hrel
    have Hno := Lib.hid hno
    clear hno
    by_cases hlt : k < s.size
    · have hx := ext_one s k hlt
      have hb := bt_of s k hlt
      have Hb := Lib.hid hb
      clear hb
      by_cases hc : s[k] = 58
      · have hxb : ((s.extract k (k + 1)).toList == [58]) = true := by rw [hx, hc]; rfl
        clear hx
        go_wp2
        go_ret
        exact ⟨k, rfl, fun h => by omega, rfl⟩
      · have hxb : ((s.extract k (k + 1)).toList == [58]) = false := by rw [hx]; simpa using hc
        clear hx
        go_wp2
        go_round
        case rel =>
          refine ⟨k + 1, by omega, by go_num, fun j hj => ?_⟩
          by_cases e : j = k
          · subst e
            rw [Hb.out]
            intro h
            apply hc
            apply UInt8.toNat_inj.1
            show _ = 58
            omega
          · exact Hno.out j (by omega)
        case measure => simp [intOf]; omega
    · go_wp2
      go_ret
      exact ⟨-1, rfl, fun _ j hj => Hno.out j (by omega), rfl⟩
set_option maxHeartbeats 400000 in
theorem contains_any (s : ByteArray) (w : World) (hs : s.size ≤ 1000) : Calls Try.prog 71 #[.string s, .string ⟨#[58]⟩] w (Told s w) := by
  go_enter Try.func71, Try.ntmps71
  go_wp2_with fail
  refine (index_any s _ hs).mono ?_
  rintro e w' ⟨i, rfl, hi, rfl⟩
  have Hi := Lib.hid hi
  clear hi
  go_wp2_with fail
  go_ret
  exact ⟨_, rfl, fun h => Hi.out (by simpa using h), rfl⟩
set_option maxHeartbeats 400000 in
theorem float_any (s : ByteArray) (w : World) (hs : s.size ≤ 1000) (h0 : 0 < s.size) :
    Calls Try.prog 72 #[.string s] w fun e w' => e = .returned (.bool (b60 s)) ∧ w = w' := by
  have hb := bt_of s 0 h0
  by_cases h1 : bt s 0 = 45
  · have : b60 s = road s 1 := by unfold b60; rw [if_neg (by omega), if_pos (.inr h1)]
    rw [this]
    exact float_minus s w hs h0 (by rw [← hb, h1]; rfl)
  by_cases h2 : bt s 0 = 43
  · have : b60 s = road s 1 := by unfold b60; rw [if_neg (by omega), if_pos (.inl h2)]
    rw [this]
    exact float_plus s w hs h0 (by rw [← hb]; simpa using h1) (by rw [← hb, h2]; rfl)
  · have : b60 s = road s 0 := by unfold b60; rw [if_neg (by omega), if_neg (by omega)]
    rw [this]
    exact float_none s w hs h0 (by rw [← hb]; simpa using h1) (by rw [← hb]; simpa using h2)
theorem size_zero {s : ByteArray} : s.toList = [] ↔ s.size = 0 := by
  rw [Lib.toList_data]
  constructor
  · intro h
    have : s.data.toList.length = s.size := by simp
    rw [h] at this
    simpa using this.symm
  · intro h
    apply List.eq_nil_of_length_eq_zero
    simpa using h
theorem no_colon {s : ByteArray} (h : ∀ j, j < s.size → bt s j ≠ 58) : b60 s = false := by
  have hr : ∀ i, road s i = false := by
    intro i
    unfold road
    split
    · split
      · rename_i h1 h2; exact (h _ h2.1 h2.2).elim
      · rfl
    · rfl
  unfold b60
  split
  · rfl
  split <;> exact hr _
theorem no_sign {s : ByteArray} (h1 : ¬ (bt s 0 = 43 ∨ bt s 0 = 45)) (h2 : dg (bt s 0) = false) : b60 s = false := by
  unfold b60
  split
  · rfl
  unfold road
  rw [if_neg (fun h => by rw [h2] at h; simp at h)]
set_option maxHeartbeats 400000 in
theorem is_any (s : ByteArray) (w : World) (hs : s.size ≤ 1000) :
    Calls Try.prog 52 #[.string s] w fun e w' => e = .returned (.bool (b60 s)) ∧ w = w' := by
  by_cases h0 : s.size = 0
  · have hb : b60 s = false := by unfold b60; rw [if_pos h0]
    have hl : s.toList = [] := size_zero.2 h0
    rw [hb]
    clear hb
    go_enter Try.func52, Try.ntmps52
    go_wp2
    go_ret
    exact ⟨rfl, rfl⟩
  have hne : s.toList.isEmpty = false := by
    cases h : s.toList with
    | nil => exact (h0 (size_zero.1 h)).elim
    | cons a l => rfl
  have hpos : 0 < s.size := by omega
  have hbt := bt_of s 0 hpos
  have hf := fun w => float_any s w hs hpos
  have hc := fun w => contains_any s w hs
  have Hf := Lib.hid hf
  have Hc := Lib.hid hc
  clear hf hc h0
  by_cases hsign : bt s 0 = 43 ∨ bt s 0 = 45 ∨ dg (bt s 0) = true
  · obtain ⟨p, m, d, q, hp, hm, hd, hq, hcase⟩ : ∃ p m d q : Bool, ((s[0].toNat : Int) == 43) = p ∧ ((s[0].toNat : Int) == 45) = m ∧ decide ((48 : Int) ≤ (s[0].toNat : Int)) = d ∧ decide ((s[0].toNat : Int) ≤ (57 : Int)) = q ∧ (p = true ∨ p = false ∧ m = true ∨ p = false ∧ m = false ∧ d = true ∧ q = true) := by
      refine ⟨_, _, _, _, rfl, rfl, rfl, rfl, ?_⟩
      rw [hbt] at hsign
      simp [dg] at hsign ⊢
      omega
    clear hsign hbt
    rcases hcase with rfl | ⟨rfl, rfl⟩ | ⟨rfl, rfl, rfl, rfl⟩
    all_goals
      go_enter Try.func52, Try.ntmps52
      go_wp2_with fail
      refine (Hc.out _).mono ?_
      rintro e w' ⟨b, rfl, hno, rfl⟩
      have Hno := Lib.hid hno
      clear hno
      cases b
      · go_wp2_with fail
        go_ret
        exact ⟨ret_bool (no_colon (Hno.out (by trivial))).symm, rfl⟩
      · go_wp2_with fail
        refine (Hf.out _).mono ?_
        rintro e w' ⟨rfl, rfl⟩
        go_wp2_with fail
        go_ret
        exact ⟨rfl, rfl⟩
  · have hb : b60 s = false := no_sign (fun h => hsign (by rcases h with h | h; exact .inl h; exact .inr (.inl h))) (by cases h : dg (bt s 0) with | false => rfl | true => exact (hsign (.inr (.inr h))).elim)
    rw [hb]
    rw [hbt] at hsign
    have h1 : ((s[0].toNat : Int) == 43) = false := by simpa using fun h => hsign (.inl h)
    have h2 : ((s[0].toNat : Int) == 45) = false := by simpa using fun h => hsign (.inr (.inl h))
    have h3 : (48 : Int) ≤ (s[0].toNat : Int) → ¬ (s[0].toNat : Int) ≤ (57 : Int) := fun a b => hsign (.inr (.inr (by simp only [dg]; rw [decide_eq_true a, decide_eq_true b]; rfl)))
    clear hsign hb hbt
    by_cases h4 : (48 : Int) ≤ (s[0].toNat : Int)
    · have h5 := h3 h4
      clear h3
      go_enter Try.func52, Try.ntmps52
      go_wp2_with fail
      go_ret
      exact ⟨rfl, rfl⟩
    · clear h3
      go_enter Try.func52, Try.ntmps52
      go_wp2_with fail
      go_ret
      exact ⟨rfl, rfl⟩
set_option maxHeartbeats 400000 in
theorem impl_any (s : ByteArray) (w : World) (hs : s.size ≤ 1000) :
    Calls Try.prog 18 #[.string s] w fun e w' => e = .returned (.bool (b60 s)) ∧ w = w' := by
  go_enter Try.func18, Try.ntmps18
  go_wp2_with (go_at_call 29; go_enter Try.func29, Try.ntmps29; go_wp2_with fail; refine (is_any s _ hs).mono ?_; rintro e w' ⟨rfl, rfl⟩)
  go_ret
  exact ⟨rfl, rfl⟩
/- The reference. -/
def Big (w : World) (e : Ending) (w' : World) : Prop := ∃ v : Int, e = .returned (.int .i64 v) ∧ 9 < v ∧ w = w'
set_option maxHeartbeats 400000 in
theorem rs_yes (n : Int) (w : World) (h0 : 48 ≤ n) (h1 : n ≤ 57) : Calls Try.prog 31 #[.int .u8 n] w fun e w' => e = .returned (.int .i64 (n - 48)) ∧ w = w' := by
  go_enter Try.func31, Try.ntmps31
  go_wp2
  go_ret
  exact ⟨ret_int (by first | rfl | omega | (simp [IntKind.wrap]; omega)), rfl⟩
set_option maxHeartbeats 400000 in
theorem rs_no (n : Int) (w : World) (h0 : 0 ≤ n) (h1 : n ≤ 255) (h : n < 48 ∨ 57 < n) : Calls Try.prog 31 #[.int .u8 n] w (Big w) := by
  rcases h with h | h
  all_goals
    go_enter Try.func31, Try.ntmps31
    go_wp2
    all_goals
      go_ret
      first | exact ⟨_, rfl, by omega, rfl⟩ | (refine ⟨_, rfl, ?_, rfl⟩; simp [IntKind.wrap]; omega) | (refine ⟨_, rfl, ?_, rfl⟩; trace_state; sorry)
end Go.Proofs.YtacmdmbdfkjhmaaR.Sixty
