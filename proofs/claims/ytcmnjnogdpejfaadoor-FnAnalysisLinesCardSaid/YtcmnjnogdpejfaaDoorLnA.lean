/- What the package's looks at a character say (is_break, is_printable, is_blankz, is_blank, is_space, is_ascii): walked. Printed by genLnA.py. -/
import Derived.Test.YtcmnjnogdpejfaaDoorRows
import Derived.WalkKit
import Derived.WalkSpells
import Derived.WalkLawsBesides
import Derived.Below
import Derived.BigGuard
import Derived.BigCall
import Derived.Lib.Hide
namespace Go.Proofs.YtcmnjnogdpejfaaDoor.Ln
open Go.RowKit
set_option linter.unusedVariables false
set_option linter.unusedSimpArgs false
theorem ret_b {a b : Bool} (h : a = b) : Ending.returned (.bool a) = .returned (.bool b) := by rw [h]

set_option maxHeartbeats 4000000 in
set_option maxRecDepth 100000 in
theorem brk_lf (b i n c : Nat) (hi : i + 0 < n) (hm : n ≤ 70000)  (w : World) (hx : w.cell? ⟨b, i, none⟩ = some (.int .u8 10)) :
    Calls Tryd.prog 38 #[.slice (some ⟨b, 0, none⟩) n c, .int .i64 i] w fun e w' => (e = .returned (.bool true)) ∧ w' = w := by
  have j0 : (i : Int) < (n : Int) := by omega
  have k0 : (0 : Int) ≤ (i : Int) := by omega
  go_enter Tryd.func38, Tryd.ntmps38
  (try simp only [List.append])
  go_wp2_with fail
  go_ret
  first | exact ⟨rfl, rfl⟩ | exact ⟨ret_b (by simp; omega), rfl⟩

set_option maxHeartbeats 4000000 in
set_option maxRecDepth 100000 in
theorem brk_no (b i n c : Nat) (x : Int) (hi : i + 0 < n) (hm : n ≤ 70000) (hx0 : 0 ≤ x) (hx1 : x ≤ 255) (h0 : (x == 13) = false) (h1 : (x == 10) = false) (h2 : (x == 194) = false) (h3 : (x == 226) = false) (w : World) (hx : w.cell? ⟨b, i, none⟩ = some (.int .u8 x)) :
    Calls Tryd.prog 38 #[.slice (some ⟨b, 0, none⟩) n c, .int .i64 i] w fun e w' => (e = .returned (.bool false)) ∧ w' = w := by
  have j0 : (i : Int) < (n : Int) := by omega
  have k0 : (0 : Int) ≤ (i : Int) := by omega
  go_enter Tryd.func38, Tryd.ntmps38
  (try simp only [List.append])
  go_wp2_with fail
  go_ret
  first | exact ⟨rfl, rfl⟩ | exact ⟨ret_b (by simp; omega), rfl⟩

set_option maxHeartbeats 4000000 in
set_option maxRecDepth 100000 in
theorem brk_c2 (b i n c : Nat) (y : Int) (hi : i + 1 < n) (hm : n ≤ 70000) (hy0 : 0 ≤ y) (hy1 : y ≤ 255) (h0 : (y == 133) = false) (w : World) (hx : w.cell? ⟨b, i, none⟩ = some (.int .u8 194)) (hy : w.cell? ⟨b, i + 1, none⟩ = some (.int .u8 y)) :
    Calls Tryd.prog 38 #[.slice (some ⟨b, 0, none⟩) n c, .int .i64 i] w fun e w' => (e = .returned (.bool false)) ∧ w' = w := by
  have j0 : (i : Int) < (n : Int) := by omega
  have j1 : (i : Int) + 1 < (n : Int) := by omega
  have k0 : (0 : Int) ≤ (i : Int) := by omega
  go_enter Tryd.func38, Tryd.ntmps38
  (try simp only [List.append])
  go_wp2_with fail
  go_ret
  first | exact ⟨rfl, rfl⟩ | exact ⟨ret_b (by simp; omega), rfl⟩

set_option maxHeartbeats 4000000 in
set_option maxRecDepth 100000 in
theorem brk_e2 (b i n c : Nat) (y : Int) (hi : i + 1 < n) (hm : n ≤ 70000) (hy0 : 0 ≤ y) (hy1 : y ≤ 255) (h0 : (y == 128) = false) (w : World) (hx : w.cell? ⟨b, i, none⟩ = some (.int .u8 226)) (hy : w.cell? ⟨b, i + 1, none⟩ = some (.int .u8 y)) :
    Calls Tryd.prog 38 #[.slice (some ⟨b, 0, none⟩) n c, .int .i64 i] w fun e w' => (e = .returned (.bool false)) ∧ w' = w := by
  have j0 : (i : Int) < (n : Int) := by omega
  have j1 : (i : Int) + 1 < (n : Int) := by omega
  have k0 : (0 : Int) ≤ (i : Int) := by omega
  go_enter Tryd.func38, Tryd.ntmps38
  (try simp only [List.append])
  go_wp2_with fail
  go_ret
  first | exact ⟨rfl, rfl⟩ | exact ⟨ret_b (by simp; omega), rfl⟩

set_option maxHeartbeats 4000000 in
set_option maxRecDepth 100000 in
theorem brk_e280 (b i n c : Nat) (y z : Int) (hi : i + 2 < n) (hm : n ≤ 70000) (hy0 : 0 ≤ y) (hy1 : y ≤ 255) (hz0 : 0 ≤ z) (hz1 : z ≤ 255) (h0 : (y == 128) = true) (h1 : (z == 168) = false) (h2 : (z == 169) = false) (w : World) (hx : w.cell? ⟨b, i, none⟩ = some (.int .u8 226)) (hy : w.cell? ⟨b, i + 1, none⟩ = some (.int .u8 y)) (hz : w.cell? ⟨b, i + 2, none⟩ = some (.int .u8 z)) :
    Calls Tryd.prog 38 #[.slice (some ⟨b, 0, none⟩) n c, .int .i64 i] w fun e w' => (e = .returned (.bool false)) ∧ w' = w := by
  have j0 : (i : Int) < (n : Int) := by omega
  have j1 : (i : Int) + 1 < (n : Int) := by omega
  have j2 : (i : Int) + 2 < (n : Int) := by omega
  have k0 : (0 : Int) ≤ (i : Int) := by omega
  go_enter Tryd.func38, Tryd.ntmps38
  (try simp only [List.append])
  go_wp2_with fail
  go_ret
  first | exact ⟨rfl, rfl⟩ | exact ⟨ret_b (by simp; omega), rfl⟩

set_option maxHeartbeats 4000000 in
set_option maxRecDepth 100000 in
theorem blz_32 (b i n c : Nat) (hi : i + 0 < n) (hm : n ≤ 70000)  (w : World) (hx : w.cell? ⟨b, i, none⟩ = some (.int .u8 32)) :
    Calls Tryd.prog 39 #[.slice (some ⟨b, 0, none⟩) n c, .int .i64 i] w fun e w' => (∃ r, e = .returned (.bool r)) ∧ w' = w := by
  have j0 : (i : Int) < (n : Int) := by omega
  have k0 : (0 : Int) ≤ (i : Int) := by omega
  go_enter Tryd.func39, Tryd.ntmps39
  (try simp only [List.append])
  go_wp2_with fail
  go_ret
  first | exact ⟨⟨_, rfl⟩, rfl⟩ | exact ⟨ret_b (by simp; omega), rfl⟩

set_option maxHeartbeats 4000000 in
set_option maxRecDepth 100000 in
theorem blz_9 (b i n c : Nat) (hi : i + 0 < n) (hm : n ≤ 70000)  (w : World) (hx : w.cell? ⟨b, i, none⟩ = some (.int .u8 9)) :
    Calls Tryd.prog 39 #[.slice (some ⟨b, 0, none⟩) n c, .int .i64 i] w fun e w' => (∃ r, e = .returned (.bool r)) ∧ w' = w := by
  have j0 : (i : Int) < (n : Int) := by omega
  have k0 : (0 : Int) ≤ (i : Int) := by omega
  go_enter Tryd.func39, Tryd.ntmps39
  (try simp only [List.append])
  go_wp2_with fail
  go_ret
  first | exact ⟨⟨_, rfl⟩, rfl⟩ | exact ⟨ret_b (by simp; omega), rfl⟩

set_option maxHeartbeats 4000000 in
set_option maxRecDepth 100000 in
theorem blz_10 (b i n c : Nat) (hi : i + 0 < n) (hm : n ≤ 70000)  (w : World) (hx : w.cell? ⟨b, i, none⟩ = some (.int .u8 10)) :
    Calls Tryd.prog 39 #[.slice (some ⟨b, 0, none⟩) n c, .int .i64 i] w fun e w' => (∃ r, e = .returned (.bool r)) ∧ w' = w := by
  have j0 : (i : Int) < (n : Int) := by omega
  have k0 : (0 : Int) ≤ (i : Int) := by omega
  go_enter Tryd.func39, Tryd.ntmps39
  (try simp only [List.append])
  go_wp2_with fail
  go_ret
  first | exact ⟨⟨_, rfl⟩, rfl⟩ | exact ⟨ret_b (by simp; omega), rfl⟩

set_option maxHeartbeats 4000000 in
set_option maxRecDepth 100000 in
theorem blz_no (b i n c : Nat) (x : Int) (hi : i + 0 < n) (hm : n ≤ 70000) (hx0 : 0 ≤ x) (hx1 : x ≤ 255) (h0 : (x == 32) = false) (h1 : (x == 9) = false) (h2 : (x == 13) = false) (h3 : (x == 10) = false) (h4 : (x == 194) = false) (h5 : (x == 226) = false) (w : World) (hx : w.cell? ⟨b, i, none⟩ = some (.int .u8 x)) :
    Calls Tryd.prog 39 #[.slice (some ⟨b, 0, none⟩) n c, .int .i64 i] w fun e w' => (∃ r, e = .returned (.bool r)) ∧ w' = w := by
  have j0 : (i : Int) < (n : Int) := by omega
  have k0 : (0 : Int) ≤ (i : Int) := by omega
  go_enter Tryd.func39, Tryd.ntmps39
  (try simp only [List.append])
  go_wp2_with fail
  go_ret
  first | exact ⟨⟨_, rfl⟩, rfl⟩ | exact ⟨ret_b (by simp; omega), rfl⟩

set_option maxHeartbeats 4000000 in
set_option maxRecDepth 100000 in
theorem blz_c2 (b i n c : Nat) (y : Int) (hi : i + 1 < n) (hm : n ≤ 70000) (hy0 : 0 ≤ y) (hy1 : y ≤ 255) (h0 : (y == 133) = false) (w : World) (hx : w.cell? ⟨b, i, none⟩ = some (.int .u8 194)) (hy : w.cell? ⟨b, i + 1, none⟩ = some (.int .u8 y)) :
    Calls Tryd.prog 39 #[.slice (some ⟨b, 0, none⟩) n c, .int .i64 i] w fun e w' => (∃ r, e = .returned (.bool r)) ∧ w' = w := by
  have j0 : (i : Int) < (n : Int) := by omega
  have j1 : (i : Int) + 1 < (n : Int) := by omega
  have k0 : (0 : Int) ≤ (i : Int) := by omega
  go_enter Tryd.func39, Tryd.ntmps39
  (try simp only [List.append])
  go_wp2_with fail
  go_ret
  first | exact ⟨⟨_, rfl⟩, rfl⟩ | exact ⟨ret_b (by simp; omega), rfl⟩

set_option maxHeartbeats 4000000 in
set_option maxRecDepth 100000 in
theorem blz_e2 (b i n c : Nat) (y : Int) (hi : i + 1 < n) (hm : n ≤ 70000) (hy0 : 0 ≤ y) (hy1 : y ≤ 255) (h0 : (y == 128) = false) (w : World) (hx : w.cell? ⟨b, i, none⟩ = some (.int .u8 226)) (hy : w.cell? ⟨b, i + 1, none⟩ = some (.int .u8 y)) :
    Calls Tryd.prog 39 #[.slice (some ⟨b, 0, none⟩) n c, .int .i64 i] w fun e w' => (∃ r, e = .returned (.bool r)) ∧ w' = w := by
  have j0 : (i : Int) < (n : Int) := by omega
  have j1 : (i : Int) + 1 < (n : Int) := by omega
  have k0 : (0 : Int) ≤ (i : Int) := by omega
  go_enter Tryd.func39, Tryd.ntmps39
  (try simp only [List.append])
  go_wp2_with fail
  go_ret
  first | exact ⟨⟨_, rfl⟩, rfl⟩ | exact ⟨ret_b (by simp; omega), rfl⟩

set_option maxHeartbeats 4000000 in
set_option maxRecDepth 100000 in
theorem blz_e280 (b i n c : Nat) (y z : Int) (hi : i + 2 < n) (hm : n ≤ 70000) (hy0 : 0 ≤ y) (hy1 : y ≤ 255) (hz0 : 0 ≤ z) (hz1 : z ≤ 255) (h0 : (y == 128) = true) (h1 : (z == 168) = false) (h2 : (z == 169) = false) (w : World) (hx : w.cell? ⟨b, i, none⟩ = some (.int .u8 226)) (hy : w.cell? ⟨b, i + 1, none⟩ = some (.int .u8 y)) (hz : w.cell? ⟨b, i + 2, none⟩ = some (.int .u8 z)) :
    Calls Tryd.prog 39 #[.slice (some ⟨b, 0, none⟩) n c, .int .i64 i] w fun e w' => (∃ r, e = .returned (.bool r)) ∧ w' = w := by
  have j0 : (i : Int) < (n : Int) := by omega
  have j1 : (i : Int) + 1 < (n : Int) := by omega
  have j2 : (i : Int) + 2 < (n : Int) := by omega
  have k0 : (0 : Int) ≤ (i : Int) := by omega
  go_enter Tryd.func39, Tryd.ntmps39
  (try simp only [List.append])
  go_wp2_with fail
  go_ret
  first | exact ⟨⟨_, rfl⟩, rfl⟩ | exact ⟨ret_b (by simp; omega), rfl⟩

set_option maxHeartbeats 4000000 in
set_option maxRecDepth 100000 in
theorem prn_10 (b i n c : Nat) (hi : i + 0 < n) (hm : n ≤ 70000)  (w : World) (hx : w.cell? ⟨b, i, none⟩ = some (.int .u8 10)) :
    Calls Tryd.prog 35 #[.slice (some ⟨b, 0, none⟩) n c, .int .i64 i] w fun e w' => (∃ r, e = .returned (.bool r)) ∧ w' = w := by
  have j0 : (i : Int) < (n : Int) := by omega
  have k0 : (0 : Int) ≤ (i : Int) := by omega
  go_enter Tryd.func35, Tryd.ntmps35
  (try simp only [List.append])
  go_wp2_with fail
  go_ret
  first | exact ⟨⟨_, rfl⟩, rfl⟩ | exact ⟨ret_b (by simp; omega), rfl⟩

set_option maxHeartbeats 4000000 in
set_option maxRecDepth 100000 in
theorem prn_low (b i n c : Nat) (hi : i + 0 < n) (hm : n ≤ 70000)  (w : World) (hx : w.cell? ⟨b, i, none⟩ = some (.int .u8 9)) :
    Calls Tryd.prog 35 #[.slice (some ⟨b, 0, none⟩) n c, .int .i64 i] w fun e w' => (∃ r, e = .returned (.bool r)) ∧ w' = w := by
  have j0 : (i : Int) < (n : Int) := by omega
  have k0 : (0 : Int) ≤ (i : Int) := by omega
  go_enter Tryd.func35, Tryd.ntmps35
  (try simp only [List.append])
  go_wp2_with fail
  go_ret
  first | exact ⟨⟨_, rfl⟩, rfl⟩ | exact ⟨ret_b (by simp; omega), rfl⟩

set_option maxHeartbeats 4000000 in
set_option maxRecDepth 100000 in
theorem prn_ascii (b i n c : Nat) (x : Int) (hi : i + 0 < n) (hm : n ≤ 70000) (hx0 : 0 ≤ x) (hx1 : x ≤ 255) (h0 : 32 ≤ x) (h1 : x ≤ 126) (h2 : (x == 10) = false) (h3 : (x == 194) = false) (h4 : (x == 237) = false) (h5 : (x == 238) = false) (h6 : (x == 239) = false) (w : World) (hx : w.cell? ⟨b, i, none⟩ = some (.int .u8 x)) :
    Calls Tryd.prog 35 #[.slice (some ⟨b, 0, none⟩) n c, .int .i64 i] w fun e w' => (e = .returned (.bool true)) ∧ w' = w := by
  have j0 : (i : Int) < (n : Int) := by omega
  have k0 : (0 : Int) ≤ (i : Int) := by omega
  have d1 : decide (x ≤ 126) = true := decide_eq_true h1
  have d0 : decide (32 ≤ x) = true := decide_eq_true h0
  go_enter Tryd.func35, Tryd.ntmps35
  (try simp only [List.append])
  go_wp2_with fail
  go_ret
  first | exact ⟨rfl, rfl⟩ | exact ⟨ret_b (by simp; omega), rfl⟩

set_option maxHeartbeats 4000000 in
set_option maxRecDepth 100000 in
theorem prn_two (b i n c : Nat) (x : Int) (hi : i + 0 < n) (hm : n ≤ 70000) (hx0 : 0 ≤ x) (hx1 : x ≤ 255) (h0 : 195 ≤ x) (h1 : x ≤ 236) (h2 : (x == 10) = false) (h3 : (x == 194) = false) (h4 : (x == 237) = false) (h5 : (x == 238) = false) (h6 : (x == 239) = false) (w : World) (hx : w.cell? ⟨b, i, none⟩ = some (.int .u8 x)) :
    Calls Tryd.prog 35 #[.slice (some ⟨b, 0, none⟩) n c, .int .i64 i] w fun e w' => (∃ r, e = .returned (.bool r)) ∧ w' = w := by
  have j0 : (i : Int) < (n : Int) := by omega
  have k0 : (0 : Int) ≤ (i : Int) := by omega
  have d1 : decide (x ≤ 126) = false := decide_eq_false (by omega)
  have d0 : decide (32 ≤ x) = true := decide_eq_true (by omega)
  have d2 : decide (194 < x) = true := decide_eq_true (by omega)
  have d3 : decide (x < 237) = true := decide_eq_true (by omega)
  go_enter Tryd.func35, Tryd.ntmps35
  (try simp only [List.append])
  go_wp2_with fail
  go_ret
  first | exact ⟨⟨_, rfl⟩, rfl⟩ | exact ⟨ret_b (by simp; omega), rfl⟩

set_option maxHeartbeats 4000000 in
set_option maxRecDepth 100000 in
theorem prn_high (b i n c : Nat) (x : Int) (hi : i + 0 < n) (hm : n ≤ 70000) (hx0 : 0 ≤ x) (hx1 : x ≤ 255) (h0 : 240 ≤ x) (h1 : x ≤ 255) (h2 : (x == 10) = false) (h3 : (x == 194) = false) (h4 : (x == 237) = false) (h5 : (x == 238) = false) (h6 : (x == 239) = false) (w : World) (hx : w.cell? ⟨b, i, none⟩ = some (.int .u8 x)) :
    Calls Tryd.prog 35 #[.slice (some ⟨b, 0, none⟩) n c, .int .i64 i] w fun e w' => (∃ r, e = .returned (.bool r)) ∧ w' = w := by
  have j0 : (i : Int) < (n : Int) := by omega
  have k0 : (0 : Int) ≤ (i : Int) := by omega
  have d1 : decide (x ≤ 126) = false := decide_eq_false (by omega)
  have d0 : decide (32 ≤ x) = true := decide_eq_true (by omega)
  have d2 : decide (194 < x) = true := decide_eq_true (by omega)
  have d3 : decide (x < 237) = false := decide_eq_false (by omega)
  go_enter Tryd.func35, Tryd.ntmps35
  (try simp only [List.append])
  go_wp2_with fail
  go_ret
  first | exact ⟨⟨_, rfl⟩, rfl⟩ | exact ⟨ret_b (by simp; omega), rfl⟩

set_option maxHeartbeats 4000000 in
set_option maxRecDepth 100000 in
theorem prn_194 (b i n c : Nat) (y : Int) (hi : i + 1 < n) (hm : n ≤ 70000) (hy0 : 0 ≤ y) (hy1 : y ≤ 255) (h0 : 160 ≤ y) (w : World) (hx : w.cell? ⟨b, i, none⟩ = some (.int .u8 194)) (hy : w.cell? ⟨b, i + 1, none⟩ = some (.int .u8 y)) :
    Calls Tryd.prog 35 #[.slice (some ⟨b, 0, none⟩) n c, .int .i64 i] w fun e w' => (∃ r, e = .returned (.bool r)) ∧ w' = w := by
  have j0 : (i : Int) < (n : Int) := by omega
  have j1 : (i : Int) + 1 < (n : Int) := by omega
  have k0 : (0 : Int) ≤ (i : Int) := by omega
  go_enter Tryd.func35, Tryd.ntmps35
  (try simp only [List.append])
  go_wp2_with fail
  go_ret
  first | exact ⟨⟨_, rfl⟩, rfl⟩ | exact ⟨ret_b (by simp; omega), rfl⟩

set_option maxHeartbeats 4000000 in
set_option maxRecDepth 100000 in
theorem prn_237 (b i n c : Nat) (y : Int) (hi : i + 1 < n) (hm : n ≤ 70000) (hy0 : 0 ≤ y) (hy1 : y ≤ 255) (h0 : y < 160) (w : World) (hx : w.cell? ⟨b, i, none⟩ = some (.int .u8 237)) (hy : w.cell? ⟨b, i + 1, none⟩ = some (.int .u8 y)) :
    Calls Tryd.prog 35 #[.slice (some ⟨b, 0, none⟩) n c, .int .i64 i] w fun e w' => (∃ r, e = .returned (.bool r)) ∧ w' = w := by
  have j0 : (i : Int) < (n : Int) := by omega
  have j1 : (i : Int) + 1 < (n : Int) := by omega
  have k0 : (0 : Int) ≤ (i : Int) := by omega
  go_enter Tryd.func35, Tryd.ntmps35
  (try simp only [List.append])
  go_wp2_with fail
  go_ret
  first | exact ⟨⟨_, rfl⟩, rfl⟩ | exact ⟨ret_b (by simp; omega), rfl⟩

set_option maxHeartbeats 4000000 in
set_option maxRecDepth 100000 in
theorem prn_238 (b i n c : Nat) (hi : i + 0 < n) (hm : n ≤ 70000)  (w : World) (hx : w.cell? ⟨b, i, none⟩ = some (.int .u8 238)) :
    Calls Tryd.prog 35 #[.slice (some ⟨b, 0, none⟩) n c, .int .i64 i] w fun e w' => (∃ r, e = .returned (.bool r)) ∧ w' = w := by
  have j0 : (i : Int) < (n : Int) := by omega
  have k0 : (0 : Int) ≤ (i : Int) := by omega
  go_enter Tryd.func35, Tryd.ntmps35
  (try simp only [List.append])
  go_wp2_with fail
  go_ret
  first | exact ⟨⟨_, rfl⟩, rfl⟩ | exact ⟨ret_b (by simp; omega), rfl⟩

set_option maxHeartbeats 4000000 in
set_option maxRecDepth 100000 in
theorem prn_239b (b i n c : Nat) (y z : Int) (hi : i + 2 < n) (hm : n ≤ 70000) (hy0 : 0 ≤ y) (hy1 : y ≤ 255) (hz0 : 0 ≤ z) (hz1 : z ≤ 255) (h0 : (y == 187) = true) (h1 : (z == 191) = false) (h2 : (y == 191) = false) (w : World) (hx : w.cell? ⟨b, i, none⟩ = some (.int .u8 239)) (hy : w.cell? ⟨b, i + 1, none⟩ = some (.int .u8 y)) (hz : w.cell? ⟨b, i + 2, none⟩ = some (.int .u8 z)) :
    Calls Tryd.prog 35 #[.slice (some ⟨b, 0, none⟩) n c, .int .i64 i] w fun e w' => (∃ r, e = .returned (.bool r)) ∧ w' = w := by
  have j0 : (i : Int) < (n : Int) := by omega
  have j1 : (i : Int) + 1 < (n : Int) := by omega
  have j2 : (i : Int) + 2 < (n : Int) := by omega
  have k0 : (0 : Int) ≤ (i : Int) := by omega
  go_enter Tryd.func35, Tryd.ntmps35
  (try simp only [List.append])
  go_wp2_with fail
  go_ret
  first | exact ⟨⟨_, rfl⟩, rfl⟩ | exact ⟨ret_b (by simp; omega), rfl⟩

set_option maxHeartbeats 4000000 in
set_option maxRecDepth 100000 in
theorem prn_239e (b i n c : Nat) (y z : Int) (hi : i + 2 < n) (hm : n ≤ 70000) (hy0 : 0 ≤ y) (hy1 : y ≤ 255) (hz0 : 0 ≤ z) (hz1 : z ≤ 255) (h0 : (y == 191) = true) (h1 : (z == 190) = false) (h2 : (z == 191) = false) (h3 : (y == 187) = false) (w : World) (hx : w.cell? ⟨b, i, none⟩ = some (.int .u8 239)) (hy : w.cell? ⟨b, i + 1, none⟩ = some (.int .u8 y)) (hz : w.cell? ⟨b, i + 2, none⟩ = some (.int .u8 z)) :
    Calls Tryd.prog 35 #[.slice (some ⟨b, 0, none⟩) n c, .int .i64 i] w fun e w' => (∃ r, e = .returned (.bool r)) ∧ w' = w := by
  have j0 : (i : Int) < (n : Int) := by omega
  have j1 : (i : Int) + 1 < (n : Int) := by omega
  have j2 : (i : Int) + 2 < (n : Int) := by omega
  have k0 : (0 : Int) ≤ (i : Int) := by omega
  go_enter Tryd.func35, Tryd.ntmps35
  (try simp only [List.append])
  go_wp2_with fail
  go_ret
  first | exact ⟨⟨_, rfl⟩, rfl⟩ | exact ⟨ret_b (by simp; omega), rfl⟩

set_option maxHeartbeats 4000000 in
set_option maxRecDepth 100000 in
theorem prn_239f (b i n c : Nat) (y : Int) (hi : i + 1 < n) (hm : n ≤ 70000) (hy0 : 0 ≤ y) (hy1 : y ≤ 255) (h0 : (y == 187) = false) (h1 : (y == 191) = false) (w : World) (hx : w.cell? ⟨b, i, none⟩ = some (.int .u8 239)) (hy : w.cell? ⟨b, i + 1, none⟩ = some (.int .u8 y)) :
    Calls Tryd.prog 35 #[.slice (some ⟨b, 0, none⟩) n c, .int .i64 i] w fun e w' => (∃ r, e = .returned (.bool r)) ∧ w' = w := by
  have j0 : (i : Int) < (n : Int) := by omega
  have j1 : (i : Int) + 1 < (n : Int) := by omega
  have k0 : (0 : Int) ≤ (i : Int) := by omega
  go_enter Tryd.func35, Tryd.ntmps35
  (try simp only [List.append])
  go_wp2_with fail
  go_ret
  first | exact ⟨⟨_, rfl⟩, rfl⟩ | exact ⟨ret_b (by simp; omega), rfl⟩

set_option maxHeartbeats 4000000 in
set_option maxRecDepth 100000 in
theorem asc_any (b i n c : Nat) (x : Int) (hi : i + 0 < n) (hm : n ≤ 70000) (hx0 : 0 ≤ x) (hx1 : x ≤ 255)  (w : World) (hx : w.cell? ⟨b, i, none⟩ = some (.int .u8 x)) :
    Calls Tryd.prog 36 #[.slice (some ⟨b, 0, none⟩) n c, .int .i64 i] w fun e w' => (∃ r, e = .returned (.bool r)) ∧ w' = w := by
  have j0 : (i : Int) < (n : Int) := by omega
  have k0 : (0 : Int) ≤ (i : Int) := by omega
  go_enter Tryd.func36, Tryd.ntmps36
  (try simp only [List.append])
  go_wp2_with fail
  go_ret
  first | exact ⟨⟨_, rfl⟩, rfl⟩ | exact ⟨ret_b (by simp; omega), rfl⟩

set_option maxHeartbeats 4000000 in
set_option maxRecDepth 100000 in
theorem spc_any (b i n c : Nat) (x : Int) (hi : i + 0 < n) (hm : n ≤ 70000) (hx0 : 0 ≤ x) (hx1 : x ≤ 255)  (w : World) (hx : w.cell? ⟨b, i, none⟩ = some (.int .u8 x)) :
    Calls Tryd.prog 37 #[.slice (some ⟨b, 0, none⟩) n c, .int .i64 i] w fun e w' => (e = .returned (.bool (x == 32))) ∧ w' = w := by
  have j0 : (i : Int) < (n : Int) := by omega
  have k0 : (0 : Int) ≤ (i : Int) := by omega
  go_enter Tryd.func37, Tryd.ntmps37
  (try simp only [List.append])
  go_wp2_with fail
  go_ret
  first | exact ⟨rfl, rfl⟩ | exact ⟨ret_b (by simp; omega), rfl⟩

set_option maxHeartbeats 4000000 in
set_option maxRecDepth 100000 in
theorem blk_32 (b i n c : Nat) (x : Int) (hi : i + 0 < n) (hm : n ≤ 70000) (hx0 : 0 ≤ x) (hx1 : x ≤ 255) (h0 : (x == 32) = true) (w : World) (hx : w.cell? ⟨b, i, none⟩ = some (.int .u8 x)) :
    Calls Tryd.prog 34 #[.slice (some ⟨b, 0, none⟩) n c, .int .i64 i] w fun e w' => (∃ r, e = .returned (.bool r)) ∧ w' = w := by
  have j0 : (i : Int) < (n : Int) := by omega
  have k0 : (0 : Int) ≤ (i : Int) := by omega
  go_enter Tryd.func34, Tryd.ntmps34
  (try simp only [List.append])
  go_wp2_with fail
  go_ret
  first | exact ⟨⟨_, rfl⟩, rfl⟩ | exact ⟨ret_b (by simp; omega), rfl⟩

set_option maxHeartbeats 4000000 in
set_option maxRecDepth 100000 in
theorem blk_no (b i n c : Nat) (x : Int) (hi : i + 0 < n) (hm : n ≤ 70000) (hx0 : 0 ≤ x) (hx1 : x ≤ 255) (h0 : (x == 32) = false) (w : World) (hx : w.cell? ⟨b, i, none⟩ = some (.int .u8 x)) :
    Calls Tryd.prog 34 #[.slice (some ⟨b, 0, none⟩) n c, .int .i64 i] w fun e w' => (∃ r, e = .returned (.bool r)) ∧ w' = w := by
  have j0 : (i : Int) < (n : Int) := by omega
  have k0 : (0 : Int) ≤ (i : Int) := by omega
  go_enter Tryd.func34, Tryd.ntmps34
  (try simp only [List.append])
  go_wp2_with fail
  go_ret
  first | exact ⟨⟨_, rfl⟩, rfl⟩ | exact ⟨ret_b (by simp; omega), rfl⟩

theorem blk_any (b i n c : Nat) (x : Int) (hi : i < n) (hm : n ≤ 70000) (hx0 : 0 ≤ x) (hx1 : x ≤ 255) (w : World) (hx : w.cell? ⟨b, i, none⟩ = some (.int .u8 x)) :
    Calls Tryd.prog 34 #[.slice (some ⟨b, 0, none⟩) n c, .int .i64 i] w fun e w' => (∃ r, e = .returned (.bool r)) ∧ w' = w := by
  cases h : (x == 32) with
  | true => exact blk_32 b i n c x (by omega) hm hx0 hx1 h w hx
  | false => exact blk_no b i n c x (by omega) hm hx0 hx1 h w hx
/-- The first bytes of a character that may stand in a scalar's lines. -/
structure Okc (x y z : Int) : Prop where
  x0 : 0 ≤ x
  x1 : x ≤ 247
  y0 : 0 ≤ y
  y1 : y ≤ 255
  z0 : 0 ≤ z
  z1 : z ≤ 255
  low : x < 194 → x = 9 ∨ x = 10 ∨ (32 ≤ x ∧ x ≤ 126)
  c2 : x = 194 → 160 ≤ y
  e2 : x = 226 → y = 128 → z ≠ 168 ∧ z ≠ 169
  ed : x = 237 → y < 160
  efb : x = 239 → y = 187 → z ≠ 191
  eff : x = 239 → y = 191 → z ≠ 190 ∧ z ≠ 191
/-- Where they stand. -/
structure Lay (w : World) (b i n : Nat) (x y z : Int) : Prop where
  hi : i < n
  hx : w.cell? ⟨b, i, none⟩ = some (.int .u8 x)
  hy : 194 ≤ x → i + 1 < n ∧ w.cell? ⟨b, i + 1, none⟩ = some (.int .u8 y)
  hz : 224 ≤ x → i + 2 < n ∧ w.cell? ⟨b, i + 2, none⟩ = some (.int .u8 z)
theorem nb {a c : Int} (h : a ≠ c) : (a == c) = false := by simpa using h
theorem yb {a c : Int} (h : a = c) : (a == c) = true := by simpa using h
theorem brk_any (b i n c : Nat) (x y z : Int) (hm : n ≤ 70000) (hk : Okc x y z) (w : World) (hl : Lay w b i n x y z) :
    Calls Tryd.prog 38 #[.slice (some ⟨b, 0, none⟩) n c, .int .i64 i] w fun e w' => (e = .returned (.bool (x == 10))) ∧ w' = w := by
  obtain ⟨x0, x1, y0, y1, z0, z1, low, c2, e2, ed, efb, eff⟩ := hk
  obtain ⟨hi, hx, hy, hz⟩ := hl
  by_cases h10 : x = 10
  · subst h10; exact brk_lf b i n c (by omega) hm w hx
  rw [nb h10]
  by_cases h1 : x = 194
  · subst h1; exact brk_c2 b i n c y (hy (by omega)).1 hm y0 y1 (nb (by have := c2 rfl; omega)) w hx (hy (by omega)).2
  by_cases h2 : x = 226
  · subst h2
    by_cases h3 : y = 128
    · exact brk_e280 b i n c y z (hz (by omega)).1 hm y0 y1 z0 z1 (yb h3) (nb (e2 rfl h3).1) (nb (e2 rfl h3).2) w hx (hy (by omega)).2 (hz (by omega)).2
    · exact brk_e2 b i n c y (hy (by omega)).1 hm y0 y1 (nb h3) w hx (hy (by omega)).2
  exact brk_no b i n c x (by omega) hm x0 (by omega) (nb (fun h => by have := low (by omega); omega)) (nb h10) (nb h1) (nb h2) w hx
theorem blz_any (b i n c : Nat) (x y z : Int) (hm : n ≤ 70000) (hk : Okc x y z) (w : World) (hl : Lay w b i n x y z) :
    Calls Tryd.prog 39 #[.slice (some ⟨b, 0, none⟩) n c, .int .i64 i] w fun e w' => (∃ r, e = .returned (.bool r)) ∧ w' = w := by
  obtain ⟨x0, x1, y0, y1, z0, z1, low, c2, e2, ed, efb, eff⟩ := hk
  obtain ⟨hi, hx, hy, hz⟩ := hl
  by_cases h10 : x = 10
  · subst h10; exact blz_10 b i n c (by omega) hm w hx
  by_cases h9 : x = 9
  · subst h9; exact blz_9 b i n c (by omega) hm w hx
  by_cases h32 : x = 32
  · subst h32; exact blz_32 b i n c (by omega) hm w hx
  by_cases h1 : x = 194
  · subst h1; exact blz_c2 b i n c y (hy (by omega)).1 hm y0 y1 (nb (by have := c2 rfl; omega)) w hx (hy (by omega)).2
  by_cases h2 : x = 226
  · subst h2
    by_cases h3 : y = 128
    · exact blz_e280 b i n c y z (hz (by omega)).1 hm y0 y1 z0 z1 (yb h3) (nb (e2 rfl h3).1) (nb (e2 rfl h3).2) w hx (hy (by omega)).2 (hz (by omega)).2
    · exact blz_e2 b i n c y (hy (by omega)).1 hm y0 y1 (nb h3) w hx (hy (by omega)).2
  exact blz_no b i n c x (by omega) hm x0 (by omega) (nb h32) (nb h9) (nb (fun h => by have := low (by omega); omega)) (nb h10) (nb h1) (nb h2) w hx
theorem prn_any (b i n c : Nat) (x y z : Int) (hm : n ≤ 70000) (hk : Okc x y z) (w : World) (hl : Lay w b i n x y z) :
    Calls Tryd.prog 35 #[.slice (some ⟨b, 0, none⟩) n c, .int .i64 i] w fun e w' => (∃ r, e = .returned (.bool r)) ∧ w' = w := by
  obtain ⟨x0, x1, y0, y1, z0, z1, low, c2, e2, ed, efb, eff⟩ := hk
  obtain ⟨hi, hx, hy, hz⟩ := hl
  by_cases h10 : x = 10
  · subst h10; exact prn_10 b i n c (by omega) hm w hx
  by_cases h9 : x = 9
  · subst h9; exact prn_low b i n c (by omega) hm w hx
  by_cases h1 : x < 194
  · have := low h1
    exact (prn_ascii b i n c x (by omega) hm x0 (by omega) (by omega) (by omega) (nb (by omega)) (nb (by omega)) (nb (by omega)) (nb (by omega)) (nb (by omega)) w hx).mono fun _ _ h => ⟨⟨true, h.1⟩, h.2⟩
  by_cases h2 : x = 194
  · subst h2; exact prn_194 b i n c y (hy (by omega)).1 hm y0 y1 (c2 rfl) w hx (hy (by omega)).2
  by_cases h3 : x < 237
  · exact prn_two b i n c x (by omega) hm x0 (by omega) (by omega) (by omega) (nb (by omega)) (nb (by omega)) (nb (by omega)) (nb (by omega)) (nb (by omega)) w hx
  by_cases h4 : x = 237
  · subst h4; exact prn_237 b i n c y (hy (by omega)).1 hm y0 y1 (ed rfl) w hx (hy (by omega)).2
  by_cases h5 : x = 238
  · subst h5; exact prn_238 b i n c (by omega) hm w hx
  by_cases h6 : x = 239
  · subst h6
    by_cases h7 : y = 187
    · exact prn_239b b i n c y z (hz (by omega)).1 hm y0 y1 z0 z1 (yb h7) (nb (efb rfl h7)) (nb (by omega)) w hx (hy (by omega)).2 (hz (by omega)).2
    by_cases h8 : y = 191
    · exact prn_239e b i n c y z (hz (by omega)).1 hm y0 y1 z0 z1 (yb h8) (nb (eff rfl h8).1) (nb (eff rfl h8).2) (nb h7) w hx (hy (by omega)).2 (hz (by omega)).2
    exact prn_239f b i n c y (hy (by omega)).1 hm y0 y1 (nb h7) (nb h8) w hx (hy (by omega)).2
  exact prn_high b i n c x (by omega) hm x0 (by omega) (by omega) (by omega) (nb (by omega)) (nb (by omega)) (nb (by omega)) (nb (by omega)) (nb (by omega)) w hx

end Go.Proofs.YtcmnjnogdpejfaaDoor.Ln
