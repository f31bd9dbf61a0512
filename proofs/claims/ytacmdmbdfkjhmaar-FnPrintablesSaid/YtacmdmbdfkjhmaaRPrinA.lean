/- Which characters may be printed as they are: the package's look at the bytes of a character, walked; one theorem a case. -/
import Derived.Test.YtacmdmbdfkjhmaaRRows
import Derived.WalkKit
import Derived.WalkSpells
import Derived.WalkLawsBesides
import Derived.Below
import Derived.BigGuard
import Derived.BigCall
import Derived.Lib.Hide
namespace Go.Proofs.YtacmdmbdfkjhmaaR.Prin
open Go.RowKit
set_option linter.unusedVariables false
theorem ret_b {a b : Bool} (h : a = b) : Ending.returned (.bool a) = .returned (.bool b) := by rw [h]

set_option maxHeartbeats 1000000 in
set_option maxRecDepth 100000 in
theorem p_lf (b o n c : Nat) (y z : Int) (hn : 3 ≤ n) (hm : n ≤ 9223372036854775807) (hy0 : 0 ≤ y) (hy1 : y ≤ 255) (hz0 : 0 ≤ z) (hz1 : z ≤ 255)  (w : World) (hx : w.cell? ⟨b, o, none⟩ = some (.int .u8 10)) (hy : w.cell? ⟨b, o + 1, none⟩ = some (.int .u8 y)) (hz : w.cell? ⟨b, o + 2, none⟩ = some (.int .u8 z)) :
    Calls Try.prog 57 #[.slice (some ⟨b, o, none⟩) n c, .int .i64 0] w fun e w' => e = .returned (.bool true) ∧ w = w' := by
  go_enter Try.func57, Try.ntmps57
  simp only [List.append]
  go_wp2_with fail
  go_ret
  first | exact ⟨rfl, rfl⟩ | exact ⟨ret_b (by simp; omega), rfl⟩

set_option maxHeartbeats 1000000 in
set_option maxRecDepth 100000 in
theorem p_ascii (b o n c : Nat) (x y z : Int) (hn : 3 ≤ n) (hm : n ≤ 9223372036854775807) (hx0 : 0 ≤ x) (hx1 : x ≤ 255) (hy0 : 0 ≤ y) (hy1 : y ≤ 255) (hz0 : 0 ≤ z) (hz1 : z ≤ 255) (h0 : 32 ≤ x) (h1 : x ≤ 126) (h2 : (x == 10) = false) (h3 : (x == 194) = false) (h4 : (x == 237) = false) (h5 : (x == 238) = false) (h6 : (x == 239) = false) (w : World) (hx : w.cell? ⟨b, o, none⟩ = some (.int .u8 x)) (hy : w.cell? ⟨b, o + 1, none⟩ = some (.int .u8 y)) (hz : w.cell? ⟨b, o + 2, none⟩ = some (.int .u8 z)) :
    Calls Try.prog 57 #[.slice (some ⟨b, o, none⟩) n c, .int .i64 0] w fun e w' => e = .returned (.bool true) ∧ w = w' := by
  go_enter Try.func57, Try.ntmps57
  simp only [List.append]
  go_wp2_with fail
  go_ret
  first | exact ⟨rfl, rfl⟩ | exact ⟨ret_b (by simp; omega), rfl⟩

set_option maxHeartbeats 1000000 in
set_option maxRecDepth 100000 in
theorem p_low1 (b o n c : Nat) (x y z : Int) (hn : 3 ≤ n) (hm : n ≤ 9223372036854775807) (hx0 : 0 ≤ x) (hx1 : x ≤ 255) (hy0 : 0 ≤ y) (hy1 : y ≤ 255) (hz0 : 0 ≤ z) (hz1 : z ≤ 255) (h0 : 0 ≤ x) (h1 : x ≤ 9) (h2 : (x == 10) = false) (h3 : (x == 194) = false) (h4 : (x == 237) = false) (h5 : (x == 238) = false) (h6 : (x == 239) = false) (w : World) (hx : w.cell? ⟨b, o, none⟩ = some (.int .u8 x)) (hy : w.cell? ⟨b, o + 1, none⟩ = some (.int .u8 y)) (hz : w.cell? ⟨b, o + 2, none⟩ = some (.int .u8 z)) :
    Calls Try.prog 57 #[.slice (some ⟨b, o, none⟩) n c, .int .i64 0] w fun e w' => e = .returned (.bool false) ∧ w = w' := by
  go_enter Try.func57, Try.ntmps57
  simp only [List.append]
  go_wp2_with fail
  go_ret
  first | exact ⟨rfl, rfl⟩ | exact ⟨ret_b (by simp; omega), rfl⟩

set_option maxHeartbeats 1000000 in
set_option maxRecDepth 100000 in
theorem p_low2 (b o n c : Nat) (x y z : Int) (hn : 3 ≤ n) (hm : n ≤ 9223372036854775807) (hx0 : 0 ≤ x) (hx1 : x ≤ 255) (hy0 : 0 ≤ y) (hy1 : y ≤ 255) (hz0 : 0 ≤ z) (hz1 : z ≤ 255) (h0 : 11 ≤ x) (h1 : x ≤ 31) (h2 : (x == 10) = false) (h3 : (x == 194) = false) (h4 : (x == 237) = false) (h5 : (x == 238) = false) (h6 : (x == 239) = false) (w : World) (hx : w.cell? ⟨b, o, none⟩ = some (.int .u8 x)) (hy : w.cell? ⟨b, o + 1, none⟩ = some (.int .u8 y)) (hz : w.cell? ⟨b, o + 2, none⟩ = some (.int .u8 z)) :
    Calls Try.prog 57 #[.slice (some ⟨b, o, none⟩) n c, .int .i64 0] w fun e w' => e = .returned (.bool false) ∧ w = w' := by
  go_enter Try.func57, Try.ntmps57
  simp only [List.append]
  go_wp2_with fail
  go_ret
  first | exact ⟨rfl, rfl⟩ | exact ⟨ret_b (by simp; omega), rfl⟩

set_option maxHeartbeats 1000000 in
set_option maxRecDepth 100000 in
theorem p_mid (b o n c : Nat) (x y z : Int) (hn : 3 ≤ n) (hm : n ≤ 9223372036854775807) (hx0 : 0 ≤ x) (hx1 : x ≤ 255) (hy0 : 0 ≤ y) (hy1 : y ≤ 255) (hz0 : 0 ≤ z) (hz1 : z ≤ 255) (h0 : 127 ≤ x) (h1 : x ≤ 193) (h2 : (x == 10) = false) (h3 : (x == 194) = false) (h4 : (x == 237) = false) (h5 : (x == 238) = false) (h6 : (x == 239) = false) (w : World) (hx : w.cell? ⟨b, o, none⟩ = some (.int .u8 x)) (hy : w.cell? ⟨b, o + 1, none⟩ = some (.int .u8 y)) (hz : w.cell? ⟨b, o + 2, none⟩ = some (.int .u8 z)) :
    Calls Try.prog 57 #[.slice (some ⟨b, o, none⟩) n c, .int .i64 0] w fun e w' => e = .returned (.bool false) ∧ w = w' := by
  go_enter Try.func57, Try.ntmps57
  simp only [List.append]
  go_wp2_with fail
  go_ret
  first | exact ⟨rfl, rfl⟩ | exact ⟨ret_b (by simp; omega), rfl⟩

set_option maxHeartbeats 1000000 in
set_option maxRecDepth 100000 in
theorem p_two (b o n c : Nat) (x y z : Int) (hn : 3 ≤ n) (hm : n ≤ 9223372036854775807) (hx0 : 0 ≤ x) (hx1 : x ≤ 255) (hy0 : 0 ≤ y) (hy1 : y ≤ 255) (hz0 : 0 ≤ z) (hz1 : z ≤ 255) (h0 : 195 ≤ x) (h1 : x ≤ 236) (h2 : (x == 10) = false) (h3 : (x == 194) = false) (h4 : (x == 237) = false) (h5 : (x == 238) = false) (h6 : (x == 239) = false) (w : World) (hx : w.cell? ⟨b, o, none⟩ = some (.int .u8 x)) (hy : w.cell? ⟨b, o + 1, none⟩ = some (.int .u8 y)) (hz : w.cell? ⟨b, o + 2, none⟩ = some (.int .u8 z)) :
    Calls Try.prog 57 #[.slice (some ⟨b, o, none⟩) n c, .int .i64 0] w fun e w' => e = .returned (.bool true) ∧ w = w' := by
  go_enter Try.func57, Try.ntmps57
  simp only [List.append]
  go_wp2_with fail
  go_ret
  first | exact ⟨rfl, rfl⟩ | exact ⟨ret_b (by simp; omega), rfl⟩

set_option maxHeartbeats 1000000 in
set_option maxRecDepth 100000 in
theorem p_high (b o n c : Nat) (x y z : Int) (hn : 3 ≤ n) (hm : n ≤ 9223372036854775807) (hx0 : 0 ≤ x) (hx1 : x ≤ 255) (hy0 : 0 ≤ y) (hy1 : y ≤ 255) (hz0 : 0 ≤ z) (hz1 : z ≤ 255) (h0 : 240 ≤ x) (h1 : x ≤ 255) (h2 : (x == 10) = false) (h3 : (x == 194) = false) (h4 : (x == 237) = false) (h5 : (x == 238) = false) (h6 : (x == 239) = false) (w : World) (hx : w.cell? ⟨b, o, none⟩ = some (.int .u8 x)) (hy : w.cell? ⟨b, o + 1, none⟩ = some (.int .u8 y)) (hz : w.cell? ⟨b, o + 2, none⟩ = some (.int .u8 z)) :
    Calls Try.prog 57 #[.slice (some ⟨b, o, none⟩) n c, .int .i64 0] w fun e w' => e = .returned (.bool false) ∧ w = w' := by
  go_enter Try.func57, Try.ntmps57
  simp only [List.append]
  go_wp2_with fail
  go_ret
  first | exact ⟨rfl, rfl⟩ | exact ⟨ret_b (by simp; omega), rfl⟩

set_option maxHeartbeats 1000000 in
set_option maxRecDepth 100000 in
theorem p_194y (b o n c : Nat) (y z : Int) (hn : 3 ≤ n) (hm : n ≤ 9223372036854775807) (hy0 : 0 ≤ y) (hy1 : y ≤ 255) (hz0 : 0 ≤ z) (hz1 : z ≤ 255) (h0 : 160 ≤ y) (w : World) (hx : w.cell? ⟨b, o, none⟩ = some (.int .u8 194)) (hy : w.cell? ⟨b, o + 1, none⟩ = some (.int .u8 y)) (hz : w.cell? ⟨b, o + 2, none⟩ = some (.int .u8 z)) :
    Calls Try.prog 57 #[.slice (some ⟨b, o, none⟩) n c, .int .i64 0] w fun e w' => e = .returned (.bool true) ∧ w = w' := by
  go_enter Try.func57, Try.ntmps57
  simp only [List.append]
  go_wp2_with fail
  go_ret
  first | exact ⟨rfl, rfl⟩ | exact ⟨ret_b (by simp; omega), rfl⟩

set_option maxHeartbeats 1000000 in
set_option maxRecDepth 100000 in
theorem p_194n (b o n c : Nat) (y z : Int) (hn : 3 ≤ n) (hm : n ≤ 9223372036854775807) (hy0 : 0 ≤ y) (hy1 : y ≤ 255) (hz0 : 0 ≤ z) (hz1 : z ≤ 255) (h0 : y < 160) (w : World) (hx : w.cell? ⟨b, o, none⟩ = some (.int .u8 194)) (hy : w.cell? ⟨b, o + 1, none⟩ = some (.int .u8 y)) (hz : w.cell? ⟨b, o + 2, none⟩ = some (.int .u8 z)) :
    Calls Try.prog 57 #[.slice (some ⟨b, o, none⟩) n c, .int .i64 0] w fun e w' => e = .returned (.bool false) ∧ w = w' := by
  go_enter Try.func57, Try.ntmps57
  simp only [List.append]
  go_wp2_with fail
  go_ret
  first | exact ⟨rfl, rfl⟩ | exact ⟨ret_b (by simp; omega), rfl⟩

set_option maxHeartbeats 1000000 in
set_option maxRecDepth 100000 in
theorem p_237y (b o n c : Nat) (y z : Int) (hn : 3 ≤ n) (hm : n ≤ 9223372036854775807) (hy0 : 0 ≤ y) (hy1 : y ≤ 255) (hz0 : 0 ≤ z) (hz1 : z ≤ 255) (h0 : y < 160) (w : World) (hx : w.cell? ⟨b, o, none⟩ = some (.int .u8 237)) (hy : w.cell? ⟨b, o + 1, none⟩ = some (.int .u8 y)) (hz : w.cell? ⟨b, o + 2, none⟩ = some (.int .u8 z)) :
    Calls Try.prog 57 #[.slice (some ⟨b, o, none⟩) n c, .int .i64 0] w fun e w' => e = .returned (.bool true) ∧ w = w' := by
  go_enter Try.func57, Try.ntmps57
  simp only [List.append]
  go_wp2_with fail
  go_ret
  first | exact ⟨rfl, rfl⟩ | exact ⟨ret_b (by simp; omega), rfl⟩

set_option maxHeartbeats 1000000 in
set_option maxRecDepth 100000 in
theorem p_237n (b o n c : Nat) (y z : Int) (hn : 3 ≤ n) (hm : n ≤ 9223372036854775807) (hy0 : 0 ≤ y) (hy1 : y ≤ 255) (hz0 : 0 ≤ z) (hz1 : z ≤ 255) (h0 : 160 ≤ y) (w : World) (hx : w.cell? ⟨b, o, none⟩ = some (.int .u8 237)) (hy : w.cell? ⟨b, o + 1, none⟩ = some (.int .u8 y)) (hz : w.cell? ⟨b, o + 2, none⟩ = some (.int .u8 z)) :
    Calls Try.prog 57 #[.slice (some ⟨b, o, none⟩) n c, .int .i64 0] w fun e w' => e = .returned (.bool false) ∧ w = w' := by
  go_enter Try.func57, Try.ntmps57
  simp only [List.append]
  go_wp2_with fail
  go_ret
  first | exact ⟨rfl, rfl⟩ | exact ⟨ret_b (by simp; omega), rfl⟩

set_option maxHeartbeats 1000000 in
set_option maxRecDepth 100000 in
theorem p_238 (b o n c : Nat) (y z : Int) (hn : 3 ≤ n) (hm : n ≤ 9223372036854775807) (hy0 : 0 ≤ y) (hy1 : y ≤ 255) (hz0 : 0 ≤ z) (hz1 : z ≤ 255)  (w : World) (hx : w.cell? ⟨b, o, none⟩ = some (.int .u8 238)) (hy : w.cell? ⟨b, o + 1, none⟩ = some (.int .u8 y)) (hz : w.cell? ⟨b, o + 2, none⟩ = some (.int .u8 z)) :
    Calls Try.prog 57 #[.slice (some ⟨b, o, none⟩) n c, .int .i64 0] w fun e w' => e = .returned (.bool true) ∧ w = w' := by
  go_enter Try.func57, Try.ntmps57
  simp only [List.append]
  go_wp2_with fail
  go_ret
  first | exact ⟨rfl, rfl⟩ | exact ⟨ret_b (by simp; omega), rfl⟩

set_option maxHeartbeats 1000000 in
set_option maxRecDepth 100000 in
theorem p_239a (b o n c : Nat) (y z : Int) (hn : 3 ≤ n) (hm : n ≤ 9223372036854775807) (hy0 : 0 ≤ y) (hy1 : y ≤ 255) (hz0 : 0 ≤ z) (hz1 : z ≤ 255) (h0 : (y == 187) = true) (h1 : (z == 191) = true) (h2 : (y == 191) = false) (w : World) (hx : w.cell? ⟨b, o, none⟩ = some (.int .u8 239)) (hy : w.cell? ⟨b, o + 1, none⟩ = some (.int .u8 y)) (hz : w.cell? ⟨b, o + 2, none⟩ = some (.int .u8 z)) :
    Calls Try.prog 57 #[.slice (some ⟨b, o, none⟩) n c, .int .i64 0] w fun e w' => e = .returned (.bool false) ∧ w = w' := by
  go_enter Try.func57, Try.ntmps57
  simp only [List.append]
  go_wp2_with fail
  go_ret
  first | exact ⟨rfl, rfl⟩ | exact ⟨ret_b (by simp; omega), rfl⟩

set_option maxHeartbeats 1000000 in
set_option maxRecDepth 100000 in
theorem p_239b (b o n c : Nat) (y z : Int) (hn : 3 ≤ n) (hm : n ≤ 9223372036854775807) (hy0 : 0 ≤ y) (hy1 : y ≤ 255) (hz0 : 0 ≤ z) (hz1 : z ≤ 255) (h0 : (y == 187) = true) (h1 : (z == 191) = false) (h2 : (y == 191) = false) (w : World) (hx : w.cell? ⟨b, o, none⟩ = some (.int .u8 239)) (hy : w.cell? ⟨b, o + 1, none⟩ = some (.int .u8 y)) (hz : w.cell? ⟨b, o + 2, none⟩ = some (.int .u8 z)) :
    Calls Try.prog 57 #[.slice (some ⟨b, o, none⟩) n c, .int .i64 0] w fun e w' => e = .returned (.bool true) ∧ w = w' := by
  go_enter Try.func57, Try.ntmps57
  simp only [List.append]
  go_wp2_with fail
  go_ret
  first | exact ⟨rfl, rfl⟩ | exact ⟨ret_b (by simp; omega), rfl⟩

set_option maxHeartbeats 1000000 in
set_option maxRecDepth 100000 in
theorem p_239c (b o n c : Nat) (y z : Int) (hn : 3 ≤ n) (hm : n ≤ 9223372036854775807) (hy0 : 0 ≤ y) (hy1 : y ≤ 255) (hz0 : 0 ≤ z) (hz1 : z ≤ 255) (h0 : (y == 191) = true) (h1 : (z == 190) = true) (h2 : (y == 187) = false) (w : World) (hx : w.cell? ⟨b, o, none⟩ = some (.int .u8 239)) (hy : w.cell? ⟨b, o + 1, none⟩ = some (.int .u8 y)) (hz : w.cell? ⟨b, o + 2, none⟩ = some (.int .u8 z)) :
    Calls Try.prog 57 #[.slice (some ⟨b, o, none⟩) n c, .int .i64 0] w fun e w' => e = .returned (.bool false) ∧ w = w' := by
  go_enter Try.func57, Try.ntmps57
  simp only [List.append]
  go_wp2_with fail
  go_ret
  first | exact ⟨rfl, rfl⟩ | exact ⟨ret_b (by simp; omega), rfl⟩

set_option maxHeartbeats 1000000 in
set_option maxRecDepth 100000 in
theorem p_239d (b o n c : Nat) (y z : Int) (hn : 3 ≤ n) (hm : n ≤ 9223372036854775807) (hy0 : 0 ≤ y) (hy1 : y ≤ 255) (hz0 : 0 ≤ z) (hz1 : z ≤ 255) (h0 : (y == 191) = true) (h1 : (z == 190) = false) (h2 : (z == 191) = true) (h3 : (y == 187) = false) (w : World) (hx : w.cell? ⟨b, o, none⟩ = some (.int .u8 239)) (hy : w.cell? ⟨b, o + 1, none⟩ = some (.int .u8 y)) (hz : w.cell? ⟨b, o + 2, none⟩ = some (.int .u8 z)) :
    Calls Try.prog 57 #[.slice (some ⟨b, o, none⟩) n c, .int .i64 0] w fun e w' => e = .returned (.bool false) ∧ w = w' := by
  go_enter Try.func57, Try.ntmps57
  simp only [List.append]
  go_wp2_with fail
  go_ret
  first | exact ⟨rfl, rfl⟩ | exact ⟨ret_b (by simp; omega), rfl⟩

set_option maxHeartbeats 1000000 in
set_option maxRecDepth 100000 in
theorem p_239e (b o n c : Nat) (y z : Int) (hn : 3 ≤ n) (hm : n ≤ 9223372036854775807) (hy0 : 0 ≤ y) (hy1 : y ≤ 255) (hz0 : 0 ≤ z) (hz1 : z ≤ 255) (h0 : (y == 191) = true) (h1 : (z == 190) = false) (h2 : (z == 191) = false) (h3 : (y == 187) = false) (w : World) (hx : w.cell? ⟨b, o, none⟩ = some (.int .u8 239)) (hy : w.cell? ⟨b, o + 1, none⟩ = some (.int .u8 y)) (hz : w.cell? ⟨b, o + 2, none⟩ = some (.int .u8 z)) :
    Calls Try.prog 57 #[.slice (some ⟨b, o, none⟩) n c, .int .i64 0] w fun e w' => e = .returned (.bool true) ∧ w = w' := by
  go_enter Try.func57, Try.ntmps57
  simp only [List.append]
  go_wp2_with fail
  go_ret
  first | exact ⟨rfl, rfl⟩ | exact ⟨ret_b (by simp; omega), rfl⟩

set_option maxHeartbeats 1000000 in
set_option maxRecDepth 100000 in
theorem p_239f (b o n c : Nat) (y z : Int) (hn : 3 ≤ n) (hm : n ≤ 9223372036854775807) (hy0 : 0 ≤ y) (hy1 : y ≤ 255) (hz0 : 0 ≤ z) (hz1 : z ≤ 255) (h0 : (y == 187) = false) (h1 : (y == 191) = false) (w : World) (hx : w.cell? ⟨b, o, none⟩ = some (.int .u8 239)) (hy : w.cell? ⟨b, o + 1, none⟩ = some (.int .u8 y)) (hz : w.cell? ⟨b, o + 2, none⟩ = some (.int .u8 z)) :
    Calls Try.prog 57 #[.slice (some ⟨b, o, none⟩) n c, .int .i64 0] w fun e w' => e = .returned (.bool true) ∧ w = w' := by
  go_enter Try.func57, Try.ntmps57
  simp only [List.append]
  go_wp2_with fail
  go_ret
  first | exact ⟨rfl, rfl⟩ | exact ⟨ret_b (by simp; omega), rfl⟩

/-- Whether a character whose first bytes are these may be printed as it is. -/
def pb (x y z : Int) : Bool :=
  if x = 10 then true else if x < 32 then false else if x ≤ 126 then true else if x < 194 then false
  else if x = 194 then decide (160 ≤ y) else if x < 237 then true else if x = 237 then decide (y < 160) else if x = 238 then true
  else if x = 239 then !(decide (y = 187 ∧ z = 191) || decide (y = 191 ∧ (z = 190 ∨ z = 191))) else false
theorem p_any (b o n c : Nat) (x y z : Int) (hn : 3 ≤ n) (hm : n ≤ 9223372036854775807) (hx0 : 0 ≤ x) (hx1 : x ≤ 255) (hy0 : 0 ≤ y) (hy1 : y ≤ 255) (hz0 : 0 ≤ z) (hz1 : z ≤ 255) (w : World) (hx : w.cell? ⟨b, o, none⟩ = some (.int .u8 x)) (hy : w.cell? ⟨b, o + 1, none⟩ = some (.int .u8 y)) (hz : w.cell? ⟨b, o + 2, none⟩ = some (.int .u8 z)) :
    Calls Try.prog 57 #[.slice (some ⟨b, o, none⟩) n c, .int .i64 0] w fun e w' => e = .returned (.bool (pb x y z)) ∧ w = w' := by
  have nb : ∀ {a c : Int}, a ≠ c → (a == c) = false := fun h => by simpa using h
  by_cases h10 : x = 10
  · subst h10; exact p_lf b o n c y z hn hm hy0 hy1 hz0 hz1 w hx hy hz
  by_cases h9 : x ≤ 9
  · have : pb x y z = false := by unfold pb; rw [if_neg h10, if_pos (by omega)]
    rw [this]; exact p_low1 b o n c x y z hn hm hx0 hx1 hy0 hy1 hz0 hz1 (by omega) (by omega) (nb (by omega)) (nb (by omega)) (nb (by omega)) (nb (by omega)) (nb (by omega)) w hx hy hz
  by_cases h31 : x ≤ 31
  · have : pb x y z = false := by unfold pb; rw [if_neg h10, if_pos (by omega)]
    rw [this]; exact p_low2 b o n c x y z hn hm hx0 hx1 hy0 hy1 hz0 hz1 (by omega) (by omega) (nb (by omega)) (nb (by omega)) (nb (by omega)) (nb (by omega)) (nb (by omega)) w hx hy hz
  by_cases h126 : x ≤ 126
  · have : pb x y z = true := by unfold pb; rw [if_neg h10, if_neg (by omega), if_pos h126]
    rw [this]; exact p_ascii b o n c x y z hn hm hx0 hx1 hy0 hy1 hz0 hz1 (by omega) (by omega) (nb (by omega)) (nb (by omega)) (nb (by omega)) (nb (by omega)) (nb (by omega)) w hx hy hz
  by_cases h193 : x ≤ 193
  · have : pb x y z = false := by unfold pb; rw [if_neg h10, if_neg (by omega), if_neg h126, if_pos (by omega)]
    rw [this]; exact p_mid b o n c x y z hn hm hx0 hx1 hy0 hy1 hz0 hz1 (by omega) (by omega) (nb (by omega)) (nb (by omega)) (nb (by omega)) (nb (by omega)) (nb (by omega)) w hx hy hz
  by_cases h194 : x = 194
  · subst h194
    by_cases hy160 : 160 ≤ y
    · have : pb 194 y z = true := by simp [pb, hy160]
      rw [this]; exact p_194y b o n c y z hn hm hy0 hy1 hz0 hz1 hy160 w hx hy hz
    · have : pb 194 y z = false := by simp [pb]; omega
      rw [this]; exact p_194n b o n c y z hn hm hy0 hy1 hz0 hz1 (by omega) w hx hy hz
  by_cases h236 : x ≤ 236
  · have : pb x y z = true := by unfold pb; rw [if_neg h10, if_neg (by omega), if_neg h126, if_neg (by omega), if_neg h194, if_pos (by omega)]
    rw [this]; exact p_two b o n c x y z hn hm hx0 hx1 hy0 hy1 hz0 hz1 (by omega) (by omega) (nb (by omega)) (nb (by omega)) (nb (by omega)) (nb (by omega)) (nb (by omega)) w hx hy hz
  by_cases h237 : x = 237
  · subst h237
    by_cases hy160 : y < 160
    · have : pb 237 y z = true := by simp [pb, hy160]
      rw [this]; exact p_237y b o n c y z hn hm hy0 hy1 hz0 hz1 hy160 w hx hy hz
    · have : pb 237 y z = false := by simp [pb]; omega
      rw [this]; exact p_237n b o n c y z hn hm hy0 hy1 hz0 hz1 (by omega) w hx hy hz
  by_cases h238 : x = 238
  · subst h238
    exact p_238 b o n c y z hn hm hy0 hy1 hz0 hz1 w hx hy hz
  by_cases h239 : x = 239
  · subst h239
    by_cases y187 : y = 187
    · by_cases z191 : z = 191
      · have : pb 239 y z = false := by simp [pb, y187, z191]
        rw [this]; exact p_239a b o n c y z hn hm hy0 hy1 hz0 hz1 (by simpa using y187) (by simpa using z191) (nb (by omega)) w hx hy hz
      · have : pb 239 y z = true := by simp [pb, y187, z191]
        rw [this]; exact p_239b b o n c y z hn hm hy0 hy1 hz0 hz1 (by simpa using y187) (nb z191) (nb (by omega)) w hx hy hz
    by_cases y191 : y = 191
    · by_cases z190 : z = 190
      · have : pb 239 y z = false := by simp [pb, y191, z190]
        rw [this]; exact p_239c b o n c y z hn hm hy0 hy1 hz0 hz1 (by simpa using y191) (by simpa using z190) (nb y187) w hx hy hz
      by_cases z191 : z = 191
      · have : pb 239 y z = false := by simp [pb, y191, z191]
        rw [this]; exact p_239d b o n c y z hn hm hy0 hy1 hz0 hz1 (by simpa using y191) (nb z190) (by simpa using z191) (nb y187) w hx hy hz
      · have : pb 239 y z = true := by simp [pb, y191, z190, z191]
        rw [this]; exact p_239e b o n c y z hn hm hy0 hy1 hz0 hz1 (by simpa using y191) (nb z190) (nb z191) (nb y187) w hx hy hz
    · have : pb 239 y z = true := by simp [pb, y187, y191]
      rw [this]; exact p_239f b o n c y z hn hm hy0 hy1 hz0 hz1 (nb y187) (nb y191) w hx hy hz
  · have : pb x y z = false := by unfold pb; rw [if_neg h10, if_neg (by omega), if_neg h126, if_neg (by omega), if_neg h194, if_neg (by omega), if_neg h237, if_neg h238, if_neg h239]
    rw [this]; exact p_high b o n c x y z hn hm hx0 hx1 hy0 hy1 hz0 hz1 (by omega) (by omega) (nb (by omega)) (nb (by omega)) (nb (by omega)) (nb (by omega)) (nb (by omega)) w hx hy hz

end Go.Proofs.YtacmdmbdfkjhmaaR.Prin
