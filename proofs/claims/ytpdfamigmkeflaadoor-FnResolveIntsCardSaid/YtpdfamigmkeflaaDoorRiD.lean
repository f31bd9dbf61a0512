/- Integers with a sign, or without one (strconv.ParseInt at base 0), over what ParseUint gives: the walks. -/
import Derived.Test.YtpdfamigmkeflaaDoorRiB
namespace Go.Proofs.YtpdfamigmkeflaaDoor.Ri
open Go.RowKit
set_option linter.unusedVariables false
set_option linter.unusedSimpArgs false
/-- ParseUint reads this number. -/
def PU (u : List UInt8) (V : Nat) : Prop := ∀ w, Calls Tryd.prog 43 #[.string (S u), .int .i64 0, .int .i64 64] w fun e w' => e = .returned (.tuple #[.int .u64 V, .nilIface]) ∧ Below w.heap.size w w'
/-- ParseInt, the inner one, reads this one. -/
def PI (u : List UInt8) (V : Int) : Prop := ∀ w, Calls Tryd.prog 42 #[.string (S u), .int .i64 0, .int .i64 64] w fun e w' => e = .returned (.tuple #[.int .i64 V, .nilIface]) ∧ Below w.heap.size w w'
set_option maxHeartbeats 4000000 in
set_option maxRecDepth 100000 in
theorem pi_plain (u : List UInt8) (V : Nat) (h1 : 1 ≤ u.length) (x : Int) (hx : ((u[0]'(by omega)).toNat : Int) = x) (h43 : (x == 43) = false) (h45 : (x == 45) = false) (hV : V ≤ 9223372036854775807) (hP : PU u V) : PI u V := by
  intro w
  have hsz := S_size u
  have hg0 : (((S u)[0]'(by rw [hsz]; omega)).toNat : Int) = x := by rw [S_get u 0 (by omega)]; exact hx
  have hemp : (S u).toList.isEmpty = false := S_ne u h1
  have HP := Lib.hid (hP w)
  have v1 : (V : Int) ≤ 9223372036854775807 := by omega
  have v2 : decide ((9223372036854775808 : Int) ≤ (V : Int)) = false := decide_eq_false (by omega)
  clear hP
  go_enter Tryd.func42, Tryd.ntmps42
  go_wp2_with fail
  refine HP.out.mono ?_
  rintro e w1 ⟨rfl, hb⟩
  have HB := Lib.hid hb
  clear hb
  go_wp2_with fail
  go_ret2
  exact ⟨rfl, HB.out⟩
set_option maxHeartbeats 4000000 in
set_option maxRecDepth 100000 in
theorem pi_plus (u : List UInt8) (V : Nat) (hV : V ≤ 9223372036854775807) (hP : PU u V) : PI (43 :: u) V := by
  intro w
  have hszu := S_size u
  have hsz : (S (43 :: u)).size = u.length + 1 := S_size _
  have hg0 : (((S (43 :: u))[0]'(by rw [hsz]; omega)).toNat : Int) = 43 := by rw [S_get (43 :: u) 0 (by simp)]; rfl
  have hx1 : (S (43 :: u)).extract 1 (S (43 :: u)).size = S u := S_extract [43] u
  have hx2 : (S (43 :: u)).extract 1 (u.length + 1) = S u := by rw [← hsz]; exact hx1
  have hemp : (S (43 :: u)).toList.isEmpty = false := S_ne _ (by simp)
  have HP := Lib.hid (hP w)
  have v1 : (V : Int) ≤ 9223372036854775807 := by omega
  have v2 : decide ((9223372036854775808 : Int) ≤ (V : Int)) = false := decide_eq_false (by omega)
  clear hP
  go_enter Tryd.func42, Tryd.ntmps42
  go_wp2_with fail
  refine HP.out.mono ?_
  rintro e w1 ⟨rfl, hb⟩
  have HB := Lib.hid hb
  clear hb
  go_wp2_with fail
  go_ret2
  exact ⟨rfl, HB.out⟩
set_option maxHeartbeats 4000000 in
set_option maxRecDepth 100000 in
theorem pi_minus (u : List UInt8) (V : Nat) (hV : V ≤ 9223372036854775808) (hP : PU u V) : PI (45 :: u) (-(V : Int)) := by
  intro w
  have hszu := S_size u
  have hsz : (S (45 :: u)).size = u.length + 1 := S_size _
  have hg0 : (((S (45 :: u))[0]'(by rw [hsz]; omega)).toNat : Int) = 45 := by rw [S_get (45 :: u) 0 (by simp)]; rfl
  have hx1 : (S (45 :: u)).extract 1 (S (45 :: u)).size = S u := S_extract [45] u
  have hx2 : (S (45 :: u)).extract 1 (u.length + 1) = S u := by rw [← hsz]; exact hx1
  have hemp : (S (45 :: u)).toList.isEmpty = false := S_ne _ (by simp)
  have HP := Lib.hid (hP w)
  have v2 : decide ((9223372036854775808 : Int) < (V : Int)) = false := decide_eq_false (by omega)
  clear hP
  by_cases hm : V = 9223372036854775808
  · subst hm
    go_enter Tryd.func42, Tryd.ntmps42
    go_wp2_with fail
    refine HP.out.mono ?_
    rintro e w1 ⟨rfl, hb⟩
    have HB := Lib.hid hb
    clear hb
    go_wp2_with fail
    go_ret2
    refine ⟨?_, HB.out⟩
    show Ending.returned (.tuple #[.int .i64 (wrap64 (-wrap64 9223372036854775808)), .nilIface]) = _
    rw [show wrap64 (-wrap64 9223372036854775808) = -((9223372036854775808 : Nat) : Int) by kernel_rfl]
  · have v1 : (V : Int) ≤ 9223372036854775807 := by omega
    go_enter Tryd.func42, Tryd.ntmps42
    go_wp2_with fail
    refine HP.out.mono ?_
    rintro e w1 ⟨rfl, hb⟩
    have HB := Lib.hid hb
    clear hb
    go_wp2_with fail
    go_ret2
    exact ⟨rfl, HB.out⟩
set_option maxHeartbeats 4000000 in
theorem parse_any (u : List UInt8) (V : Int) (hP : PI u V) (w : World) : Calls Tryd.prog 30 #[.string (S u), .int .i64 0, .int .i64 64] w fun e w' => e = .returned (.tuple #[.int .i64 V, .nilIface]) ∧ Below w.heap.size w w' := by
  have HP := Lib.hid (hP w)
  clear hP
  go_enter Tryd.func30, Tryd.ntmps30
  go_wp2_with fail
  refine HP.out.mono ?_
  rintro e w1 ⟨rfl, hb⟩
  have HB := Lib.hid hb
  clear hb
  go_wp2_with fail
  go_ret2
  exact ⟨rfl, HB.out⟩
end Go.Proofs.YtpdfamigmkeflaaDoor.Ri
