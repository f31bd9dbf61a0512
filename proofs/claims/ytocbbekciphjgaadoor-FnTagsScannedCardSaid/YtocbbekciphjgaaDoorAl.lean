/- Whether a byte is a letter of a name (is_alpha), walked; one theorem a case. -/
import Derived.Test.YtocbbekciphjgaaDoorRows
import Derived.WalkKit
import Derived.WalkSpells
import Derived.WalkLawsBesides
import Derived.BigGuard
import Derived.BigCall
namespace Go.Proofs.YtocbbekciphjgaaDoor.Al
open Go.RowKit
set_option linter.unusedVariables false
theorem ret_b {a b : Bool} (h : a = b) : Ending.returned (.bool a) = .returned (.bool b) := by rw [h]
/-- A letter of a name. -/
def al (x : Int) : Bool := decide ((48 ≤ x ∧ x ≤ 57) ∨ (65 ≤ x ∧ x ≤ 90) ∨ (97 ≤ x ∧ x ≤ 122) ∨ x = 95 ∨ x = 45)

set_option maxHeartbeats 1000000 in
set_option maxRecDepth 100000 in
theorem a_a (b o n c i : Nat) (x : Int) (hi : i < n) (hm : n ≤ 9223372036854775807) (hlo : 0 ≤ x) (hhi : x ≤ 44) (h95 : (x == 95) = false) (h45 : (x == 45) = false) (w : World) (hx : w.cell? ⟨b, o + i, none⟩ = some (.int .u8 x)) :
    Calls Tryd.prog 108 #[.slice (some ⟨b, o, none⟩) n c, .int .i64 i] w fun e w' => e = .returned (.bool false) ∧ w = w' := by
  go_enter Tryd.func108, Tryd.ntmps108
  try simp only [List.append]
  go_wp2_with fail
  go_ret
  first | exact ⟨rfl, rfl⟩ | exact ⟨ret_b (by simp; omega), rfl⟩

set_option maxHeartbeats 1000000 in
set_option maxRecDepth 100000 in
theorem a_b (b o n c i : Nat) (x : Int) (hi : i < n) (hm : n ≤ 9223372036854775807) (hlo : 45 ≤ x) (hhi : x ≤ 45) (h95 : (x == 95) = false) (h45 : (x == 45) = true) (w : World) (hx : w.cell? ⟨b, o + i, none⟩ = some (.int .u8 x)) :
    Calls Tryd.prog 108 #[.slice (some ⟨b, o, none⟩) n c, .int .i64 i] w fun e w' => e = .returned (.bool true) ∧ w = w' := by
  go_enter Tryd.func108, Tryd.ntmps108
  try simp only [List.append]
  go_wp2_with fail
  go_ret
  first | exact ⟨rfl, rfl⟩ | exact ⟨ret_b (by simp; omega), rfl⟩

set_option maxHeartbeats 1000000 in
set_option maxRecDepth 100000 in
theorem a_c (b o n c i : Nat) (x : Int) (hi : i < n) (hm : n ≤ 9223372036854775807) (hlo : 46 ≤ x) (hhi : x ≤ 47) (h95 : (x == 95) = false) (h45 : (x == 45) = false) (w : World) (hx : w.cell? ⟨b, o + i, none⟩ = some (.int .u8 x)) :
    Calls Tryd.prog 108 #[.slice (some ⟨b, o, none⟩) n c, .int .i64 i] w fun e w' => e = .returned (.bool false) ∧ w = w' := by
  go_enter Tryd.func108, Tryd.ntmps108
  try simp only [List.append]
  go_wp2_with fail
  go_ret
  first | exact ⟨rfl, rfl⟩ | exact ⟨ret_b (by simp; omega), rfl⟩

set_option maxHeartbeats 1000000 in
set_option maxRecDepth 100000 in
theorem a_d (b o n c i : Nat) (x : Int) (hi : i < n) (hm : n ≤ 9223372036854775807) (hlo : 48 ≤ x) (hhi : x ≤ 57) (h95 : (x == 95) = false) (h45 : (x == 45) = false) (w : World) (hx : w.cell? ⟨b, o + i, none⟩ = some (.int .u8 x)) :
    Calls Tryd.prog 108 #[.slice (some ⟨b, o, none⟩) n c, .int .i64 i] w fun e w' => e = .returned (.bool true) ∧ w = w' := by
  go_enter Tryd.func108, Tryd.ntmps108
  try simp only [List.append]
  go_wp2_with fail
  go_ret
  first | exact ⟨rfl, rfl⟩ | exact ⟨ret_b (by simp; omega), rfl⟩

set_option maxHeartbeats 1000000 in
set_option maxRecDepth 100000 in
theorem a_e (b o n c i : Nat) (x : Int) (hi : i < n) (hm : n ≤ 9223372036854775807) (hlo : 58 ≤ x) (hhi : x ≤ 64) (h95 : (x == 95) = false) (h45 : (x == 45) = false) (w : World) (hx : w.cell? ⟨b, o + i, none⟩ = some (.int .u8 x)) :
    Calls Tryd.prog 108 #[.slice (some ⟨b, o, none⟩) n c, .int .i64 i] w fun e w' => e = .returned (.bool false) ∧ w = w' := by
  go_enter Tryd.func108, Tryd.ntmps108
  try simp only [List.append]
  go_wp2_with fail
  go_ret
  first | exact ⟨rfl, rfl⟩ | exact ⟨ret_b (by simp; omega), rfl⟩

set_option maxHeartbeats 1000000 in
set_option maxRecDepth 100000 in
theorem a_f (b o n c i : Nat) (x : Int) (hi : i < n) (hm : n ≤ 9223372036854775807) (hlo : 65 ≤ x) (hhi : x ≤ 90) (h95 : (x == 95) = false) (h45 : (x == 45) = false) (w : World) (hx : w.cell? ⟨b, o + i, none⟩ = some (.int .u8 x)) :
    Calls Tryd.prog 108 #[.slice (some ⟨b, o, none⟩) n c, .int .i64 i] w fun e w' => e = .returned (.bool true) ∧ w = w' := by
  go_enter Tryd.func108, Tryd.ntmps108
  try simp only [List.append]
  go_wp2_with fail
  go_ret
  first | exact ⟨rfl, rfl⟩ | exact ⟨ret_b (by simp; omega), rfl⟩

set_option maxHeartbeats 1000000 in
set_option maxRecDepth 100000 in
theorem a_g (b o n c i : Nat) (x : Int) (hi : i < n) (hm : n ≤ 9223372036854775807) (hlo : 91 ≤ x) (hhi : x ≤ 94) (h95 : (x == 95) = false) (h45 : (x == 45) = false) (w : World) (hx : w.cell? ⟨b, o + i, none⟩ = some (.int .u8 x)) :
    Calls Tryd.prog 108 #[.slice (some ⟨b, o, none⟩) n c, .int .i64 i] w fun e w' => e = .returned (.bool false) ∧ w = w' := by
  go_enter Tryd.func108, Tryd.ntmps108
  try simp only [List.append]
  go_wp2_with fail
  go_ret
  first | exact ⟨rfl, rfl⟩ | exact ⟨ret_b (by simp; omega), rfl⟩

set_option maxHeartbeats 1000000 in
set_option maxRecDepth 100000 in
theorem a_h (b o n c i : Nat) (x : Int) (hi : i < n) (hm : n ≤ 9223372036854775807) (hlo : 95 ≤ x) (hhi : x ≤ 95) (h95 : (x == 95) = true) (h45 : (x == 45) = false) (w : World) (hx : w.cell? ⟨b, o + i, none⟩ = some (.int .u8 x)) :
    Calls Tryd.prog 108 #[.slice (some ⟨b, o, none⟩) n c, .int .i64 i] w fun e w' => e = .returned (.bool true) ∧ w = w' := by
  go_enter Tryd.func108, Tryd.ntmps108
  try simp only [List.append]
  go_wp2_with fail
  go_ret
  first | exact ⟨rfl, rfl⟩ | exact ⟨ret_b (by simp; omega), rfl⟩

set_option maxHeartbeats 1000000 in
set_option maxRecDepth 100000 in
theorem a_i (b o n c i : Nat) (x : Int) (hi : i < n) (hm : n ≤ 9223372036854775807) (hlo : 96 ≤ x) (hhi : x ≤ 96) (h95 : (x == 95) = false) (h45 : (x == 45) = false) (w : World) (hx : w.cell? ⟨b, o + i, none⟩ = some (.int .u8 x)) :
    Calls Tryd.prog 108 #[.slice (some ⟨b, o, none⟩) n c, .int .i64 i] w fun e w' => e = .returned (.bool false) ∧ w = w' := by
  go_enter Tryd.func108, Tryd.ntmps108
  try simp only [List.append]
  go_wp2_with fail
  go_ret
  first | exact ⟨rfl, rfl⟩ | exact ⟨ret_b (by simp; omega), rfl⟩

set_option maxHeartbeats 1000000 in
set_option maxRecDepth 100000 in
theorem a_j (b o n c i : Nat) (x : Int) (hi : i < n) (hm : n ≤ 9223372036854775807) (hlo : 97 ≤ x) (hhi : x ≤ 122) (h95 : (x == 95) = false) (h45 : (x == 45) = false) (w : World) (hx : w.cell? ⟨b, o + i, none⟩ = some (.int .u8 x)) :
    Calls Tryd.prog 108 #[.slice (some ⟨b, o, none⟩) n c, .int .i64 i] w fun e w' => e = .returned (.bool true) ∧ w = w' := by
  go_enter Tryd.func108, Tryd.ntmps108
  try simp only [List.append]
  go_wp2_with fail
  go_ret
  first | exact ⟨rfl, rfl⟩ | exact ⟨ret_b (by simp; omega), rfl⟩

set_option maxHeartbeats 1000000 in
set_option maxRecDepth 100000 in
theorem a_k (b o n c i : Nat) (x : Int) (hi : i < n) (hm : n ≤ 9223372036854775807) (hlo : 123 ≤ x) (hhi : x ≤ 255) (h95 : (x == 95) = false) (h45 : (x == 45) = false) (w : World) (hx : w.cell? ⟨b, o + i, none⟩ = some (.int .u8 x)) :
    Calls Tryd.prog 108 #[.slice (some ⟨b, o, none⟩) n c, .int .i64 i] w fun e w' => e = .returned (.bool false) ∧ w = w' := by
  go_enter Tryd.func108, Tryd.ntmps108
  try simp only [List.append]
  go_wp2_with fail
  go_ret
  first | exact ⟨rfl, rfl⟩ | exact ⟨ret_b (by simp; omega), rfl⟩

theorem al_any (b o n c i : Nat) (x : Int) (hi : i < n) (hm : n ≤ 9223372036854775807) (hx0 : 0 ≤ x) (hx1 : x ≤ 255) (w : World) (hx : w.cell? ⟨b, o + i, none⟩ = some (.int .u8 x)) :
    Calls Tryd.prog 108 #[.slice (some ⟨b, o, none⟩) n c, .int .i64 i] w fun e w' => e = .returned (.bool (al x)) ∧ w = w' := by
  have nb : ∀ {a b : Int}, a ≠ b → (a == b) = false := fun h => by simpa using h
  by_cases ca_a : x ≤ 44
  · rw [show al x = false from by unfold al; rw [decide_eq_false_iff_not]; omega]; exact a_a b o n c i x hi hm (by omega) (by omega) (nb (by omega)) (nb (by omega)) w hx
  by_cases ca_b : x ≤ 45
  · rw [show al x = true from by unfold al; rw [decide_eq_true_eq]; omega]; exact a_b b o n c i x hi hm (by omega) (by omega) (nb (by omega)) (by simpa using (show x = 45 by omega)) w hx
  by_cases ca_c : x ≤ 47
  · rw [show al x = false from by unfold al; rw [decide_eq_false_iff_not]; omega]; exact a_c b o n c i x hi hm (by omega) (by omega) (nb (by omega)) (nb (by omega)) w hx
  by_cases ca_d : x ≤ 57
  · rw [show al x = true from by unfold al; rw [decide_eq_true_eq]; omega]; exact a_d b o n c i x hi hm (by omega) (by omega) (nb (by omega)) (nb (by omega)) w hx
  by_cases ca_e : x ≤ 64
  · rw [show al x = false from by unfold al; rw [decide_eq_false_iff_not]; omega]; exact a_e b o n c i x hi hm (by omega) (by omega) (nb (by omega)) (nb (by omega)) w hx
  by_cases ca_f : x ≤ 90
  · rw [show al x = true from by unfold al; rw [decide_eq_true_eq]; omega]; exact a_f b o n c i x hi hm (by omega) (by omega) (nb (by omega)) (nb (by omega)) w hx
  by_cases ca_g : x ≤ 94
  · rw [show al x = false from by unfold al; rw [decide_eq_false_iff_not]; omega]; exact a_g b o n c i x hi hm (by omega) (by omega) (nb (by omega)) (nb (by omega)) w hx
  by_cases ca_h : x ≤ 95
  · rw [show al x = true from by unfold al; rw [decide_eq_true_eq]; omega]; exact a_h b o n c i x hi hm (by omega) (by omega) (by simpa using (show x = 95 by omega)) (nb (by omega)) w hx
  by_cases ca_i : x ≤ 96
  · rw [show al x = false from by unfold al; rw [decide_eq_false_iff_not]; omega]; exact a_i b o n c i x hi hm (by omega) (by omega) (nb (by omega)) (nb (by omega)) w hx
  by_cases ca_j : x ≤ 122
  · rw [show al x = true from by unfold al; rw [decide_eq_true_eq]; omega]; exact a_j b o n c i x hi hm (by omega) (by omega) (nb (by omega)) (nb (by omega)) w hx
  · rw [show al x = false from by unfold al; rw [decide_eq_false_iff_not]; omega]; exact a_k b o n c i x hi hm (by omega) (by omega) (nb (by omega)) (nb (by omega)) w hx

end Go.Proofs.YtocbbekciphjgaaDoor.Al
