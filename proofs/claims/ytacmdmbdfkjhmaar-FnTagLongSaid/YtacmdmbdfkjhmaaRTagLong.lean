/- For every text: the thin package's long form of a tag is the reference's. No further condition. (The walks, by hand.) -/
import Derived.Test.YtacmdmbdfkjhmaaRRows
import Derived.WalkKit
import Derived.WalkSpells
import Derived.WalkLawsBesides
import Derived.Lib.Strings
import Derived.Below
namespace Go.Proofs.YtacmdmbdfkjhmaaR.TagLong
open Go.RowKit
def SomeBool (w : World) (e : Ending) (w' : World) : Prop := ∃ b : Bool, e = .returned (.bool b) ∧ w = w'
set_option maxHeartbeats 400000 in
theorem known_any (s : ByteArray) (w : World) : Calls Try.prog 69 #[.string s] w (SomeBool w) := by
  go_enter Try.func69, Try.ntmps69
  go_wp2_with fail
  all_goals (go_ret; exact ⟨_, rfl, rfl⟩)
theorem two_list : (⟨#[33, 33]⟩ : ByteArray).toList = [33, 33] := by rw [Lib.toList_data]
theorem two_size : (⟨#[33, 33]⟩ : ByteArray).size = 2 := rfl
/-- The long form. -/
def long (s : ByteArray) : ByteArray :=
  if 2 ≤ s.size ∧ (s.extract 0 2).toList = [33, 33] then (⟨#[116, 97, 103, 58, 121, 97, 109, 108, 46, 111, 114, 103, 44, 50, 48, 48, 50, 58]⟩ : ByteArray) ++ s.extract 2 s.size else s
set_option maxHeartbeats 400000 in
theorem prefix_any (s : ByteArray) (hm : s.size ≤ 2147483647) (b : Bool) (hb : decide (2 ≤ s.size ∧ (s.extract 0 2).toList = [33, 33]) = b) (w : World) :
    Calls Try.prog 68 #[.string s, .string ⟨#[33, 33]⟩] w fun e w' => e = .returned (.bool b) ∧ w = w' := by
  have t1 := two_list
  have t2 := two_size
  by_cases h : 2 ≤ s.size
  · have hx : ((s.extract 0 2).toList == [33, 33]) = b := by rw [← hb, Bool.eq_iff_iff]; simp [h]
    clear hb
    go_enter Try.func68, Try.ntmps68
    go_wp2
    go_ret
    exact ⟨by first | rfl | (rw [hx]) | (simp [hx]; done) | (simp only [← hx]), rfl⟩
  · have hx : b = false := by rw [← hb]; simp [h]
    subst hx
    go_enter Try.func68, Try.ntmps68
    go_wp2
    go_ret
    exact ⟨rfl, rfl⟩
set_option maxHeartbeats 400000 in
theorem long_any (s : ByteArray) (hm : s.size ≤ 2147483647) (w : World) : Calls Try.prog 48 #[.string s] w fun e w' => e = .returned (.string (long s)) ∧ w = w' := by
  by_cases h : 2 ≤ s.size ∧ (s.extract 0 2).toList = [33, 33]
  · have hl : long s = (⟨#[116, 97, 103, 58, 121, 97, 109, 108, 46, 111, 114, 103, 44, 50, 48, 48, 50, 58]⟩ : ByteArray) ++ s.extract 2 s.size := by unfold long; rw [if_pos h]
    have hp := fun w => prefix_any s hm true (by simpa using h) w
    obtain ⟨h2, _⟩ := h
    rw [hl]
    clear hl
    go_enter Try.func48, Try.ntmps48
    go_wp2_with fail
    refine (hp _).mono ?_
    rintro e w' ⟨rfl, rfl⟩
    go_wp2_with fail
    refine (known_any s _).mono ?_
    rintro e w' ⟨b, rfl, rfl⟩
    cases b
    all_goals
      go_wp2_with fail
      go_ret
      exact ⟨rfl, rfl⟩
  · have hl : long s = s := by unfold long; rw [if_neg h]
    have hp := fun w => prefix_any s hm false (by simpa using h) w
    rw [hl]
    clear hl
    go_enter Try.func48, Try.ntmps48
    go_wp2_with fail
    refine (hp _).mono ?_
    rintro e w' ⟨rfl, rfl⟩
    go_wp2_with fail
    go_ret
    exact ⟨rfl, rfl⟩
set_option maxHeartbeats 400000 in
theorem impl_any (s : ByteArray) (hm : s.size ≤ 2147483647) (w : World) : Calls Try.prog 11 #[.string s] w fun e w' => e = .returned (.string (long s)) ∧ w = w' := by
  go_enter Try.func11, Try.ntmps11
  go_wp2_with (go_at_call 25; go_enter Try.func25, Try.ntmps25; go_wp2_with fail; refine (long_any s hm _).mono ?_; rintro e w' ⟨rfl, rfl⟩)
  go_ret
  exact ⟨rfl, rfl⟩
set_option maxHeartbeats 400000 in
theorem spec_any (s : ByteArray) (hm : s.size ≤ 2147483647) (w : World) : Calls Try.prog 12 #[.string s] w fun e w' => e = .returned (.string (long s)) ∧ w = w' := by
  by_cases h : 2 ≤ s.size
  · by_cases hp : (s.extract 0 2).toList = [33, 33]
    · have hl : long s = (⟨#[116, 97, 103, 58, 121, 97, 109, 108, 46, 111, 114, 103, 44, 50, 48, 48, 50, 58]⟩ : ByteArray) ++ s.extract 2 s.size := by unfold long; rw [if_pos ⟨h, hp⟩]
      rw [hl]
      clear hl
      go_enter Try.func12, Try.ntmps12
      go_wp2_with fail
      go_ret
      exact ⟨rfl, rfl⟩
    · have hl : long s = s := by unfold long; rw [if_neg (fun x => hp x.2)]
      have hpb : ((s.extract 0 2).toList == [33, 33]) = false := by simpa using hp
      rw [hl]
      clear hl hp
      go_enter Try.func12, Try.ntmps12
      go_wp2_with fail
      go_ret
      exact ⟨rfl, rfl⟩
  · have hl : long s = s := by unfold long; rw [if_neg (fun x => h x.1)]
    rw [hl]
    clear hl
    go_enter Try.func12, Try.ntmps12
    go_wp2_with fail
    go_ret
    exact ⟨rfl, rfl⟩
set_option maxHeartbeats 400000 in
theorem walk (s : ByteArray) (w : World) : Calls Try.prog 4 #[.string s] w fun e w' => e = .returned (.bool true) ∧ Below w.heap.size w w' := by
  by_cases h : s.size ≤ 2147483647
  · go_enter Try.func4, Try.ntmps4
    go_wp2_with fail
    refine (impl_any s h _).mono ?_
    rintro e w' ⟨rfl, rfl⟩
    go_wp2_with fail
    refine (spec_any s h _).mono ?_
    rintro e w' ⟨rfl, rfl⟩
    go_wp2_with fail
    go_ret
    exact ⟨by simp, Below.refl _ _⟩
  · go_enter Try.func4, Try.ntmps4
    go_wp2_with fail
    go_ret
    exact ⟨rfl, Below.refl _ _⟩
end Go.Proofs.YtacmdmbdfkjhmaaR.TagLong
