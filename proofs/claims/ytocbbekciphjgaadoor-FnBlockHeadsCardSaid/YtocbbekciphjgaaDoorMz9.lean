/- QdE: parts of the proof, one behind another. -/
import Derived.Lib.Hide
import Derived.Test.YtocbbekciphjgaaDoorMz6
import Derived.Test.YtocbbekciphjgaaDoorMz8
/- QdE -/
/- What the package's looks at a character say (is_break, is_blankz, is_z, is_crlf, is_hex, as_hex): walked. Printed by genQdE.py. -/
namespace Go.Proofs.YtocbbekciphjgaaDoor.Qd
open Go.RowKit Go.Proofs.YtocbbekciphjgaaDoor.Rdp Go.Proofs.YtocbbekciphjgaaDoor.Pa Go.Proofs.YtocbbekciphjgaaDoor.Sc
set_option linter.unusedVariables false
set_option linter.unusedSimpArgs false
theorem ret_b {a b : Bool} (h : a = b) : Ending.returned (.bool a) = .returned (.bool b) := by rw [h]
theorem ret_n {k : IntKind} {a b : Int} (h : a = b) : Ending.returned (.int k a) = .returned (.int k b) := by rw [h]

set_option maxHeartbeats 4000000 in
set_option maxRecDepth 100000 in
theorem brk_lf (b i n c : Nat) (hi : i + 0 < n) (hm : n ≤ 70000)  (w : World) (hx : w.cell? ⟨b, i, none⟩ = some (.int .u8 10)) :
    Calls Tryd.prog 115 #[.slice (some ⟨b, 0, none⟩) n c, .int .i64 i] w fun e w' => (e = .returned (.bool true)) ∧ w' = w := by
  have j0 : (i : Int) < (n : Int) := by omega
  have k0 : (0 : Int) ≤ (i : Int) := by omega
  go_enter Tryd.func115, Tryd.ntmps115
  (try simp only [List.append])
  go_wp2_with fail
  go_ret
  first | exact ⟨rfl, rfl⟩ | exact ⟨ret_n (by omega), rfl⟩ | exact ⟨ret_b (by simp; omega), rfl⟩

set_option maxHeartbeats 4000000 in
set_option maxRecDepth 100000 in
theorem brk_no (b i n c : Nat) (x : Int) (hi : i + 0 < n) (hm : n ≤ 70000) (hx0 : 0 ≤ x) (hx1 : x ≤ 255) (h0 : (x == 13) = false) (h1 : (x == 10) = false) (h2 : (x == 194) = false) (h3 : (x == 226) = false) (w : World) (hx : w.cell? ⟨b, i, none⟩ = some (.int .u8 x)) :
    Calls Tryd.prog 115 #[.slice (some ⟨b, 0, none⟩) n c, .int .i64 i] w fun e w' => (e = .returned (.bool false)) ∧ w' = w := by
  have j0 : (i : Int) < (n : Int) := by omega
  have k0 : (0 : Int) ≤ (i : Int) := by omega
  go_enter Tryd.func115, Tryd.ntmps115
  (try simp only [List.append])
  go_wp2_with fail
  go_ret
  first | exact ⟨rfl, rfl⟩ | exact ⟨ret_n (by omega), rfl⟩ | exact ⟨ret_b (by simp; omega), rfl⟩

set_option maxHeartbeats 4000000 in
set_option maxRecDepth 100000 in
theorem brk_c2 (b i n c : Nat) (y : Int) (hi : i + 1 < n) (hm : n ≤ 70000) (hy0 : 0 ≤ y) (hy1 : y ≤ 255) (h0 : (y == 133) = false) (w : World) (hx : w.cell? ⟨b, i, none⟩ = some (.int .u8 194)) (hy : w.cell? ⟨b, i + 1, none⟩ = some (.int .u8 y)) :
    Calls Tryd.prog 115 #[.slice (some ⟨b, 0, none⟩) n c, .int .i64 i] w fun e w' => (e = .returned (.bool false)) ∧ w' = w := by
  have j0 : (i : Int) < (n : Int) := by omega
  have j1 : (i : Int) + 1 < (n : Int) := by omega
  have k0 : (0 : Int) ≤ (i : Int) := by omega
  go_enter Tryd.func115, Tryd.ntmps115
  (try simp only [List.append])
  go_wp2_with fail
  go_ret
  first | exact ⟨rfl, rfl⟩ | exact ⟨ret_n (by omega), rfl⟩ | exact ⟨ret_b (by simp; omega), rfl⟩

set_option maxHeartbeats 4000000 in
set_option maxRecDepth 100000 in
theorem brk_e2 (b i n c : Nat) (y : Int) (hi : i + 1 < n) (hm : n ≤ 70000) (hy0 : 0 ≤ y) (hy1 : y ≤ 255) (h0 : (y == 128) = false) (w : World) (hx : w.cell? ⟨b, i, none⟩ = some (.int .u8 226)) (hy : w.cell? ⟨b, i + 1, none⟩ = some (.int .u8 y)) :
    Calls Tryd.prog 115 #[.slice (some ⟨b, 0, none⟩) n c, .int .i64 i] w fun e w' => (e = .returned (.bool false)) ∧ w' = w := by
  have j0 : (i : Int) < (n : Int) := by omega
  have j1 : (i : Int) + 1 < (n : Int) := by omega
  have k0 : (0 : Int) ≤ (i : Int) := by omega
  go_enter Tryd.func115, Tryd.ntmps115
  (try simp only [List.append])
  go_wp2_with fail
  go_ret
  first | exact ⟨rfl, rfl⟩ | exact ⟨ret_n (by omega), rfl⟩ | exact ⟨ret_b (by simp; omega), rfl⟩

set_option maxHeartbeats 4000000 in
set_option maxRecDepth 100000 in
theorem brk_e280 (b i n c : Nat) (y z : Int) (hi : i + 2 < n) (hm : n ≤ 70000) (hy0 : 0 ≤ y) (hy1 : y ≤ 255) (hz0 : 0 ≤ z) (hz1 : z ≤ 255) (h0 : (y == 128) = true) (h1 : (z == 168) = false) (h2 : (z == 169) = false) (w : World) (hx : w.cell? ⟨b, i, none⟩ = some (.int .u8 226)) (hy : w.cell? ⟨b, i + 1, none⟩ = some (.int .u8 y)) (hz : w.cell? ⟨b, i + 2, none⟩ = some (.int .u8 z)) :
    Calls Tryd.prog 115 #[.slice (some ⟨b, 0, none⟩) n c, .int .i64 i] w fun e w' => (e = .returned (.bool false)) ∧ w' = w := by
  have j0 : (i : Int) < (n : Int) := by omega
  have j1 : (i : Int) + 1 < (n : Int) := by omega
  have j2 : (i : Int) + 2 < (n : Int) := by omega
  have k0 : (0 : Int) ≤ (i : Int) := by omega
  go_enter Tryd.func115, Tryd.ntmps115
  (try simp only [List.append])
  go_wp2_with fail
  go_ret
  first | exact ⟨rfl, rfl⟩ | exact ⟨ret_n (by omega), rfl⟩ | exact ⟨ret_b (by simp; omega), rfl⟩

set_option maxHeartbeats 4000000 in
set_option maxRecDepth 100000 in
theorem blz_32 (b i n c : Nat) (hi : i + 0 < n) (hm : n ≤ 70000)  (w : World) (hx : w.cell? ⟨b, i, none⟩ = some (.int .u8 32)) :
    Calls Tryd.prog 110 #[.slice (some ⟨b, 0, none⟩) n c, .int .i64 i] w fun e w' => (e = .returned (.bool true)) ∧ w' = w := by
  have j0 : (i : Int) < (n : Int) := by omega
  have k0 : (0 : Int) ≤ (i : Int) := by omega
  go_enter Tryd.func110, Tryd.ntmps110
  (try simp only [List.append])
  go_wp2_with fail
  go_ret
  first | exact ⟨rfl, rfl⟩ | exact ⟨ret_n (by omega), rfl⟩ | exact ⟨ret_b (by simp; omega), rfl⟩

set_option maxHeartbeats 4000000 in
set_option maxRecDepth 100000 in
theorem blz_9 (b i n c : Nat) (hi : i + 0 < n) (hm : n ≤ 70000)  (w : World) (hx : w.cell? ⟨b, i, none⟩ = some (.int .u8 9)) :
    Calls Tryd.prog 110 #[.slice (some ⟨b, 0, none⟩) n c, .int .i64 i] w fun e w' => (e = .returned (.bool true)) ∧ w' = w := by
  have j0 : (i : Int) < (n : Int) := by omega
  have k0 : (0 : Int) ≤ (i : Int) := by omega
  go_enter Tryd.func110, Tryd.ntmps110
  (try simp only [List.append])
  go_wp2_with fail
  go_ret
  first | exact ⟨rfl, rfl⟩ | exact ⟨ret_n (by omega), rfl⟩ | exact ⟨ret_b (by simp; omega), rfl⟩

set_option maxHeartbeats 4000000 in
set_option maxRecDepth 100000 in
theorem blz_10 (b i n c : Nat) (hi : i + 0 < n) (hm : n ≤ 70000)  (w : World) (hx : w.cell? ⟨b, i, none⟩ = some (.int .u8 10)) :
    Calls Tryd.prog 110 #[.slice (some ⟨b, 0, none⟩) n c, .int .i64 i] w fun e w' => (e = .returned (.bool true)) ∧ w' = w := by
  have j0 : (i : Int) < (n : Int) := by omega
  have k0 : (0 : Int) ≤ (i : Int) := by omega
  go_enter Tryd.func110, Tryd.ntmps110
  (try simp only [List.append])
  go_wp2_with fail
  go_ret
  first | exact ⟨rfl, rfl⟩ | exact ⟨ret_n (by omega), rfl⟩ | exact ⟨ret_b (by simp; omega), rfl⟩

set_option maxHeartbeats 4000000 in
set_option maxRecDepth 100000 in
theorem blz_0 (b i n c : Nat) (hi : i + 0 < n) (hm : n ≤ 70000)  (w : World) (hx : w.cell? ⟨b, i, none⟩ = some (.int .u8 0)) :
    Calls Tryd.prog 110 #[.slice (some ⟨b, 0, none⟩) n c, .int .i64 i] w fun e w' => (e = .returned (.bool true)) ∧ w' = w := by
  have j0 : (i : Int) < (n : Int) := by omega
  have k0 : (0 : Int) ≤ (i : Int) := by omega
  go_enter Tryd.func110, Tryd.ntmps110
  (try simp only [List.append])
  go_wp2_with fail
  go_ret
  first | exact ⟨rfl, rfl⟩ | exact ⟨ret_n (by omega), rfl⟩ | exact ⟨ret_b (by simp; omega), rfl⟩

set_option maxHeartbeats 4000000 in
set_option maxRecDepth 100000 in
theorem blz_no (b i n c : Nat) (x : Int) (hi : i + 0 < n) (hm : n ≤ 70000) (hx0 : 0 ≤ x) (hx1 : x ≤ 255) (h0 : (x == 32) = false) (h1 : (x == 9) = false) (h2 : (x == 13) = false) (h3 : (x == 10) = false) (h4 : (x == 0) = false) (h5 : (x == 194) = false) (h6 : (x == 226) = false) (w : World) (hx : w.cell? ⟨b, i, none⟩ = some (.int .u8 x)) :
    Calls Tryd.prog 110 #[.slice (some ⟨b, 0, none⟩) n c, .int .i64 i] w fun e w' => (e = .returned (.bool false)) ∧ w' = w := by
  have j0 : (i : Int) < (n : Int) := by omega
  have k0 : (0 : Int) ≤ (i : Int) := by omega
  go_enter Tryd.func110, Tryd.ntmps110
  (try simp only [List.append])
  go_wp2_with fail
  go_ret
  first | exact ⟨rfl, rfl⟩ | exact ⟨ret_n (by omega), rfl⟩ | exact ⟨ret_b (by simp; omega), rfl⟩

set_option maxHeartbeats 4000000 in
set_option maxRecDepth 100000 in
theorem blz_c2 (b i n c : Nat) (y : Int) (hi : i + 1 < n) (hm : n ≤ 70000) (hy0 : 0 ≤ y) (hy1 : y ≤ 255) (h0 : (y == 133) = false) (w : World) (hx : w.cell? ⟨b, i, none⟩ = some (.int .u8 194)) (hy : w.cell? ⟨b, i + 1, none⟩ = some (.int .u8 y)) :
    Calls Tryd.prog 110 #[.slice (some ⟨b, 0, none⟩) n c, .int .i64 i] w fun e w' => (e = .returned (.bool false)) ∧ w' = w := by
  have j0 : (i : Int) < (n : Int) := by omega
  have j1 : (i : Int) + 1 < (n : Int) := by omega
  have k0 : (0 : Int) ≤ (i : Int) := by omega
  go_enter Tryd.func110, Tryd.ntmps110
  (try simp only [List.append])
  go_wp2_with fail
  go_ret
  first | exact ⟨rfl, rfl⟩ | exact ⟨ret_n (by omega), rfl⟩ | exact ⟨ret_b (by simp; omega), rfl⟩

set_option maxHeartbeats 4000000 in
set_option maxRecDepth 100000 in
theorem blz_e2 (b i n c : Nat) (y : Int) (hi : i + 1 < n) (hm : n ≤ 70000) (hy0 : 0 ≤ y) (hy1 : y ≤ 255) (h0 : (y == 128) = false) (w : World) (hx : w.cell? ⟨b, i, none⟩ = some (.int .u8 226)) (hy : w.cell? ⟨b, i + 1, none⟩ = some (.int .u8 y)) :
    Calls Tryd.prog 110 #[.slice (some ⟨b, 0, none⟩) n c, .int .i64 i] w fun e w' => (e = .returned (.bool false)) ∧ w' = w := by
  have j0 : (i : Int) < (n : Int) := by omega
  have j1 : (i : Int) + 1 < (n : Int) := by omega
  have k0 : (0 : Int) ≤ (i : Int) := by omega
  go_enter Tryd.func110, Tryd.ntmps110
  (try simp only [List.append])
  go_wp2_with fail
  go_ret
  first | exact ⟨rfl, rfl⟩ | exact ⟨ret_n (by omega), rfl⟩ | exact ⟨ret_b (by simp; omega), rfl⟩

set_option maxHeartbeats 4000000 in
set_option maxRecDepth 100000 in
theorem blz_e280 (b i n c : Nat) (y z : Int) (hi : i + 2 < n) (hm : n ≤ 70000) (hy0 : 0 ≤ y) (hy1 : y ≤ 255) (hz0 : 0 ≤ z) (hz1 : z ≤ 255) (h0 : (y == 128) = true) (h1 : (z == 168) = false) (h2 : (z == 169) = false) (w : World) (hx : w.cell? ⟨b, i, none⟩ = some (.int .u8 226)) (hy : w.cell? ⟨b, i + 1, none⟩ = some (.int .u8 y)) (hz : w.cell? ⟨b, i + 2, none⟩ = some (.int .u8 z)) :
    Calls Tryd.prog 110 #[.slice (some ⟨b, 0, none⟩) n c, .int .i64 i] w fun e w' => (e = .returned (.bool false)) ∧ w' = w := by
  have j0 : (i : Int) < (n : Int) := by omega
  have j1 : (i : Int) + 1 < (n : Int) := by omega
  have j2 : (i : Int) + 2 < (n : Int) := by omega
  have k0 : (0 : Int) ≤ (i : Int) := by omega
  go_enter Tryd.func110, Tryd.ntmps110
  (try simp only [List.append])
  go_wp2_with fail
  go_ret
  first | exact ⟨rfl, rfl⟩ | exact ⟨ret_n (by omega), rfl⟩ | exact ⟨ret_b (by simp; omega), rfl⟩

set_option maxHeartbeats 4000000 in
set_option maxRecDepth 100000 in
theorem z_any (b i n c : Nat) (x : Int) (hi : i + 0 < n) (hm : n ≤ 70000) (hx0 : 0 ≤ x) (hx1 : x ≤ 255)  (w : World) (hx : w.cell? ⟨b, i, none⟩ = some (.int .u8 x)) :
    Calls Tryd.prog 114 #[.slice (some ⟨b, 0, none⟩) n c, .int .i64 i] w fun e w' => (e = .returned (.bool (x == 0))) ∧ w' = w := by
  have j0 : (i : Int) < (n : Int) := by omega
  have k0 : (0 : Int) ≤ (i : Int) := by omega
  go_enter Tryd.func114, Tryd.ntmps114
  (try simp only [List.append])
  go_wp2_with fail
  go_ret
  first | exact ⟨rfl, rfl⟩ | exact ⟨ret_n (by omega), rfl⟩ | exact ⟨ret_b (by simp; omega), rfl⟩

set_option maxHeartbeats 4000000 in
set_option maxRecDepth 100000 in
theorem crlf_no (b i n c : Nat) (x : Int) (hi : i + 0 < n) (hm : n ≤ 70000) (hx0 : 0 ≤ x) (hx1 : x ≤ 255) (h0 : (x == 13) = false) (w : World) (hx : w.cell? ⟨b, i, none⟩ = some (.int .u8 x)) :
    Calls Tryd.prog 134 #[.slice (some ⟨b, 0, none⟩) n c, .int .i64 i] w fun e w' => (e = .returned (.bool false)) ∧ w' = w := by
  have j0 : (i : Int) < (n : Int) := by omega
  have k0 : (0 : Int) ≤ (i : Int) := by omega
  go_enter Tryd.func134, Tryd.ntmps134
  (try simp only [List.append])
  go_wp2_with fail
  go_ret
  first | exact ⟨rfl, rfl⟩ | exact ⟨ret_n (by omega), rfl⟩ | exact ⟨ret_b (by simp; omega), rfl⟩

set_option maxHeartbeats 4000000 in
set_option maxRecDepth 100000 in
theorem hex_0 (b i n c : Nat) (x : Int) (hi : i + 0 < n) (hm : n ≤ 70000) (hx0 : 0 ≤ x) (hx1 : x ≤ 255) (h0 : 0 ≤ x) (h1 : x ≤ 47) (w : World) (hx : w.cell? ⟨b, i, none⟩ = some (.int .u8 x)) :
    Calls Tryd.prog 117 #[.slice (some ⟨b, 0, none⟩) n c, .int .i64 i] w fun e w' => (e = .returned (.bool false)) ∧ w' = w := by
  have j0 : (i : Int) < (n : Int) := by omega
  have k0 : (0 : Int) ≤ (i : Int) := by omega
  have d0 : decide (48 ≤ x) = false := decide_eq_false (by omega)
  have d1 : decide (x ≤ 57) = true := decide_eq_true (by omega)
  have d2 : decide (65 ≤ x) = false := decide_eq_false (by omega)
  have d3 : decide (x ≤ 70) = true := decide_eq_true (by omega)
  have d4 : decide (97 ≤ x) = false := decide_eq_false (by omega)
  have d5 : decide (x ≤ 102) = true := decide_eq_true (by omega)
  go_enter Tryd.func117, Tryd.ntmps117
  (try simp only [List.append])
  go_wp2_with fail
  go_ret
  first | exact ⟨rfl, rfl⟩ | exact ⟨ret_n (by omega), rfl⟩ | exact ⟨ret_b (by simp; omega), rfl⟩

set_option maxHeartbeats 4000000 in
set_option maxRecDepth 100000 in
theorem hex_48 (b i n c : Nat) (x : Int) (hi : i + 0 < n) (hm : n ≤ 70000) (hx0 : 0 ≤ x) (hx1 : x ≤ 255) (h0 : 48 ≤ x) (h1 : x ≤ 57) (w : World) (hx : w.cell? ⟨b, i, none⟩ = some (.int .u8 x)) :
    Calls Tryd.prog 117 #[.slice (some ⟨b, 0, none⟩) n c, .int .i64 i] w fun e w' => (e = .returned (.bool true)) ∧ w' = w := by
  have j0 : (i : Int) < (n : Int) := by omega
  have k0 : (0 : Int) ≤ (i : Int) := by omega
  have d0 : decide (48 ≤ x) = true := decide_eq_true (by omega)
  have d1 : decide (x ≤ 57) = true := decide_eq_true (by omega)
  have d2 : decide (65 ≤ x) = false := decide_eq_false (by omega)
  have d3 : decide (x ≤ 70) = true := decide_eq_true (by omega)
  have d4 : decide (97 ≤ x) = false := decide_eq_false (by omega)
  have d5 : decide (x ≤ 102) = true := decide_eq_true (by omega)
  go_enter Tryd.func117, Tryd.ntmps117
  (try simp only [List.append])
  go_wp2_with fail
  go_ret
  first | exact ⟨rfl, rfl⟩ | exact ⟨ret_n (by omega), rfl⟩ | exact ⟨ret_b (by simp; omega), rfl⟩

set_option maxHeartbeats 4000000 in
set_option maxRecDepth 100000 in
theorem ash_48 (b i n c : Nat) (x : Int) (hi : i + 0 < n) (hm : n ≤ 70000) (hx0 : 0 ≤ x) (hx1 : x ≤ 255) (h0 : 48 ≤ x) (h1 : x ≤ 57) (w : World) (hx : w.cell? ⟨b, i, none⟩ = some (.int .u8 x)) :
    Calls Tryd.prog 118 #[.slice (some ⟨b, 0, none⟩) n c, .int .i64 i] w fun e w' => (e = .returned (.int .i64 (x - 48))) ∧ w' = w := by
  have j0 : (i : Int) < (n : Int) := by omega
  have k0 : (0 : Int) ≤ (i : Int) := by omega
  have d0 : decide (48 ≤ x) = true := decide_eq_true (by omega)
  have d1 : decide (x ≤ 57) = true := decide_eq_true (by omega)
  have d2 : decide (65 ≤ x) = false := decide_eq_false (by omega)
  have d3 : decide (x ≤ 70) = true := decide_eq_true (by omega)
  have d4 : decide (97 ≤ x) = false := decide_eq_false (by omega)
  have d5 : decide (x ≤ 102) = true := decide_eq_true (by omega)
  go_enter Tryd.func118, Tryd.ntmps118
  (try simp only [List.append])
  go_wp2_with fail
  go_ret
  first | exact ⟨rfl, rfl⟩ | exact ⟨ret_n (by omega), rfl⟩ | exact ⟨ret_b (by simp; omega), rfl⟩

set_option maxHeartbeats 4000000 in
set_option maxRecDepth 100000 in
theorem hex_58 (b i n c : Nat) (x : Int) (hi : i + 0 < n) (hm : n ≤ 70000) (hx0 : 0 ≤ x) (hx1 : x ≤ 255) (h0 : 58 ≤ x) (h1 : x ≤ 64) (w : World) (hx : w.cell? ⟨b, i, none⟩ = some (.int .u8 x)) :
    Calls Tryd.prog 117 #[.slice (some ⟨b, 0, none⟩) n c, .int .i64 i] w fun e w' => (e = .returned (.bool false)) ∧ w' = w := by
  have j0 : (i : Int) < (n : Int) := by omega
  have k0 : (0 : Int) ≤ (i : Int) := by omega
  have d0 : decide (48 ≤ x) = true := decide_eq_true (by omega)
  have d1 : decide (x ≤ 57) = false := decide_eq_false (by omega)
  have d2 : decide (65 ≤ x) = false := decide_eq_false (by omega)
  have d3 : decide (x ≤ 70) = true := decide_eq_true (by omega)
  have d4 : decide (97 ≤ x) = false := decide_eq_false (by omega)
  have d5 : decide (x ≤ 102) = true := decide_eq_true (by omega)
  go_enter Tryd.func117, Tryd.ntmps117
  (try simp only [List.append])
  go_wp2_with fail
  go_ret
  first | exact ⟨rfl, rfl⟩ | exact ⟨ret_n (by omega), rfl⟩ | exact ⟨ret_b (by simp; omega), rfl⟩

set_option maxHeartbeats 4000000 in
set_option maxRecDepth 100000 in
theorem hex_65 (b i n c : Nat) (x : Int) (hi : i + 0 < n) (hm : n ≤ 70000) (hx0 : 0 ≤ x) (hx1 : x ≤ 255) (h0 : 65 ≤ x) (h1 : x ≤ 70) (w : World) (hx : w.cell? ⟨b, i, none⟩ = some (.int .u8 x)) :
    Calls Tryd.prog 117 #[.slice (some ⟨b, 0, none⟩) n c, .int .i64 i] w fun e w' => (e = .returned (.bool true)) ∧ w' = w := by
  have j0 : (i : Int) < (n : Int) := by omega
  have k0 : (0 : Int) ≤ (i : Int) := by omega
  have d0 : decide (48 ≤ x) = true := decide_eq_true (by omega)
  have d1 : decide (x ≤ 57) = false := decide_eq_false (by omega)
  have d2 : decide (65 ≤ x) = true := decide_eq_true (by omega)
  have d3 : decide (x ≤ 70) = true := decide_eq_true (by omega)
  have d4 : decide (97 ≤ x) = false := decide_eq_false (by omega)
  have d5 : decide (x ≤ 102) = true := decide_eq_true (by omega)
  go_enter Tryd.func117, Tryd.ntmps117
  (try simp only [List.append])
  go_wp2_with fail
  go_ret
  first | exact ⟨rfl, rfl⟩ | exact ⟨ret_n (by omega), rfl⟩ | exact ⟨ret_b (by simp; omega), rfl⟩

set_option maxHeartbeats 4000000 in
set_option maxRecDepth 100000 in
theorem ash_65 (b i n c : Nat) (x : Int) (hi : i + 0 < n) (hm : n ≤ 70000) (hx0 : 0 ≤ x) (hx1 : x ≤ 255) (h0 : 65 ≤ x) (h1 : x ≤ 70) (w : World) (hx : w.cell? ⟨b, i, none⟩ = some (.int .u8 x)) :
    Calls Tryd.prog 118 #[.slice (some ⟨b, 0, none⟩) n c, .int .i64 i] w fun e w' => (e = .returned (.int .i64 (x - 55))) ∧ w' = w := by
  have j0 : (i : Int) < (n : Int) := by omega
  have k0 : (0 : Int) ≤ (i : Int) := by omega
  have d0 : decide (48 ≤ x) = true := decide_eq_true (by omega)
  have d1 : decide (x ≤ 57) = false := decide_eq_false (by omega)
  have d2 : decide (65 ≤ x) = true := decide_eq_true (by omega)
  have d3 : decide (x ≤ 70) = true := decide_eq_true (by omega)
  have d4 : decide (97 ≤ x) = false := decide_eq_false (by omega)
  have d5 : decide (x ≤ 102) = true := decide_eq_true (by omega)
  go_enter Tryd.func118, Tryd.ntmps118
  (try simp only [List.append])
  go_wp2_with fail
  go_ret
  first | exact ⟨rfl, rfl⟩ | exact ⟨ret_n (by omega), rfl⟩ | exact ⟨ret_b (by simp; omega), rfl⟩

set_option maxHeartbeats 4000000 in
set_option maxRecDepth 100000 in
theorem hex_71 (b i n c : Nat) (x : Int) (hi : i + 0 < n) (hm : n ≤ 70000) (hx0 : 0 ≤ x) (hx1 : x ≤ 255) (h0 : 71 ≤ x) (h1 : x ≤ 96) (w : World) (hx : w.cell? ⟨b, i, none⟩ = some (.int .u8 x)) :
    Calls Tryd.prog 117 #[.slice (some ⟨b, 0, none⟩) n c, .int .i64 i] w fun e w' => (e = .returned (.bool false)) ∧ w' = w := by
  have j0 : (i : Int) < (n : Int) := by omega
  have k0 : (0 : Int) ≤ (i : Int) := by omega
  have d0 : decide (48 ≤ x) = true := decide_eq_true (by omega)
  have d1 : decide (x ≤ 57) = false := decide_eq_false (by omega)
  have d2 : decide (65 ≤ x) = true := decide_eq_true (by omega)
  have d3 : decide (x ≤ 70) = false := decide_eq_false (by omega)
  have d4 : decide (97 ≤ x) = false := decide_eq_false (by omega)
  have d5 : decide (x ≤ 102) = true := decide_eq_true (by omega)
  go_enter Tryd.func117, Tryd.ntmps117
  (try simp only [List.append])
  go_wp2_with fail
  go_ret
  first | exact ⟨rfl, rfl⟩ | exact ⟨ret_n (by omega), rfl⟩ | exact ⟨ret_b (by simp; omega), rfl⟩

set_option maxHeartbeats 4000000 in
set_option maxRecDepth 100000 in
theorem hex_97 (b i n c : Nat) (x : Int) (hi : i + 0 < n) (hm : n ≤ 70000) (hx0 : 0 ≤ x) (hx1 : x ≤ 255) (h0 : 97 ≤ x) (h1 : x ≤ 102) (w : World) (hx : w.cell? ⟨b, i, none⟩ = some (.int .u8 x)) :
    Calls Tryd.prog 117 #[.slice (some ⟨b, 0, none⟩) n c, .int .i64 i] w fun e w' => (e = .returned (.bool true)) ∧ w' = w := by
  have j0 : (i : Int) < (n : Int) := by omega
  have k0 : (0 : Int) ≤ (i : Int) := by omega
  have d0 : decide (48 ≤ x) = true := decide_eq_true (by omega)
  have d1 : decide (x ≤ 57) = false := decide_eq_false (by omega)
  have d2 : decide (65 ≤ x) = true := decide_eq_true (by omega)
  have d3 : decide (x ≤ 70) = false := decide_eq_false (by omega)
  have d4 : decide (97 ≤ x) = true := decide_eq_true (by omega)
  have d5 : decide (x ≤ 102) = true := decide_eq_true (by omega)
  go_enter Tryd.func117, Tryd.ntmps117
  (try simp only [List.append])
  go_wp2_with fail
  go_ret
  first | exact ⟨rfl, rfl⟩ | exact ⟨ret_n (by omega), rfl⟩ | exact ⟨ret_b (by simp; omega), rfl⟩

set_option maxHeartbeats 4000000 in
set_option maxRecDepth 100000 in
theorem ash_97 (b i n c : Nat) (x : Int) (hi : i + 0 < n) (hm : n ≤ 70000) (hx0 : 0 ≤ x) (hx1 : x ≤ 255) (h0 : 97 ≤ x) (h1 : x ≤ 102) (w : World) (hx : w.cell? ⟨b, i, none⟩ = some (.int .u8 x)) :
    Calls Tryd.prog 118 #[.slice (some ⟨b, 0, none⟩) n c, .int .i64 i] w fun e w' => (e = .returned (.int .i64 (x - 87))) ∧ w' = w := by
  have j0 : (i : Int) < (n : Int) := by omega
  have k0 : (0 : Int) ≤ (i : Int) := by omega
  have d0 : decide (48 ≤ x) = true := decide_eq_true (by omega)
  have d1 : decide (x ≤ 57) = false := decide_eq_false (by omega)
  have d2 : decide (65 ≤ x) = true := decide_eq_true (by omega)
  have d3 : decide (x ≤ 70) = false := decide_eq_false (by omega)
  have d4 : decide (97 ≤ x) = true := decide_eq_true (by omega)
  have d5 : decide (x ≤ 102) = true := decide_eq_true (by omega)
  go_enter Tryd.func118, Tryd.ntmps118
  (try simp only [List.append])
  go_wp2_with fail
  go_ret
  first | exact ⟨rfl, rfl⟩ | exact ⟨ret_n (by omega), rfl⟩ | exact ⟨ret_b (by simp; omega), rfl⟩

set_option maxHeartbeats 4000000 in
set_option maxRecDepth 100000 in
theorem hex_103 (b i n c : Nat) (x : Int) (hi : i + 0 < n) (hm : n ≤ 70000) (hx0 : 0 ≤ x) (hx1 : x ≤ 255) (h0 : 103 ≤ x) (h1 : x ≤ 255) (w : World) (hx : w.cell? ⟨b, i, none⟩ = some (.int .u8 x)) :
    Calls Tryd.prog 117 #[.slice (some ⟨b, 0, none⟩) n c, .int .i64 i] w fun e w' => (e = .returned (.bool false)) ∧ w' = w := by
  have j0 : (i : Int) < (n : Int) := by omega
  have k0 : (0 : Int) ≤ (i : Int) := by omega
  have d0 : decide (48 ≤ x) = true := decide_eq_true (by omega)
  have d1 : decide (x ≤ 57) = false := decide_eq_false (by omega)
  have d2 : decide (65 ≤ x) = true := decide_eq_true (by omega)
  have d3 : decide (x ≤ 70) = false := decide_eq_false (by omega)
  have d4 : decide (97 ≤ x) = true := decide_eq_true (by omega)
  have d5 : decide (x ≤ 102) = false := decide_eq_false (by omega)
  go_enter Tryd.func117, Tryd.ntmps117
  (try simp only [List.append])
  go_wp2_with fail
  go_ret
  first | exact ⟨rfl, rfl⟩ | exact ⟨ret_n (by omega), rfl⟩ | exact ⟨ret_b (by simp; omega), rfl⟩

/-- The first bytes of a character that may stand here; 0 behind the end. -/
structure Okc (x y z : Int) : Prop where
  x0 : 0 ≤ x
  x1 : x ≤ 247
  y0 : 0 ≤ y
  y1 : y ≤ 255
  z0 : 0 ≤ z
  z1 : z ≤ 255
  low : x < 194 → x = 0 ∨ x = 9 ∨ x = 10 ∨ (32 ≤ x ∧ x ≤ 126)
  c2 : x = 194 → 160 ≤ y
  e2 : x = 226 → y = 128 → z ≠ 168 ∧ z ≠ 169
/-- Where they stand. -/
structure Lays (w : World) (b i n : Nat) (x y z : Int) : Prop where
  hi : i < n
  hx : w.cell? ⟨b, i, none⟩ = some (.int .u8 x)
  hy : 194 ≤ x → i + 1 < n ∧ w.cell? ⟨b, i + 1, none⟩ = some (.int .u8 y)
  hz : 224 ≤ x → i + 2 < n ∧ w.cell? ⟨b, i + 2, none⟩ = some (.int .u8 z)
theorem nb {a c : Int} (h : a ≠ c) : (a == c) = false := by simpa using h
theorem yb {a c : Int} (h : a = c) : (a == c) = true := by simpa using h
def isBz (x : Int) : Bool := x == 32 || x == 9 || x == 10 || x == 0
theorem isBz_no {x : Int} (h1 : x ≠ 32) (h2 : x ≠ 9) (h3 : x ≠ 10) (h4 : x ≠ 0) : isBz x = false := by unfold isBz; rw [nb h1, nb h2, nb h3, nb h4]; rfl
theorem brk_any (b i n c : Nat) (x y z : Int) (hm : n ≤ 70000) (hk : Okc x y z) (w : World) (hl : Lays w b i n x y z) :
    Calls Tryd.prog 115 #[.slice (some ⟨b, 0, none⟩) n c, .int .i64 i] w fun e w' => (e = .returned (.bool (x == 10))) ∧ w' = w := by
  obtain ⟨x0, x1, y0, y1, z0, z1, low, c2, e2⟩ := hk
  obtain ⟨hi, hx, hy, hz⟩ := hl
  by_cases h10 : x = 10
  · subst h10; exact brk_lf b i n c (by omega) hm w hx
  rw [nb h10]
  by_cases h1 : x = 194
  · subst h1; exact brk_c2 b i n c y (hy (by omega)).1 hm y0 y1 (nb (by have := c2 rfl; omega)) w hx (hy (by omega)).2
  by_cases h2 : x = 226
  · subst h2
    by_cases h3 : y = 128
    · exact brk_e280 b i n c y z (hz (by omega)).1 hm y0 y1 z0 z1 (yb h3) (nb (e2 rfl h3).1) (nb (e2 rfl h3).2) w hx (hy (by omega)).2 (hz (by omega)).2
    · exact brk_e2 b i n c y (hy (by omega)).1 hm y0 y1 (nb h3) w hx (hy (by omega)).2
  exact brk_no b i n c x (by omega) hm x0 (by omega) (nb (fun h => by have := low (by omega); omega)) (nb h10) (nb h1) (nb h2) w hx
theorem blz_any (b i n c : Nat) (x y z : Int) (hm : n ≤ 70000) (hk : Okc x y z) (w : World) (hl : Lays w b i n x y z) :
    Calls Tryd.prog 110 #[.slice (some ⟨b, 0, none⟩) n c, .int .i64 i] w fun e w' => (e = .returned (.bool (isBz x))) ∧ w' = w := by
  obtain ⟨x0, x1, y0, y1, z0, z1, low, c2, e2⟩ := hk
  obtain ⟨hi, hx, hy, hz⟩ := hl
  by_cases h10 : x = 10
  · subst h10; exact blz_10 b i n c (by omega) hm w hx
  by_cases h9 : x = 9
  · subst h9; exact blz_9 b i n c (by omega) hm w hx
  by_cases h32 : x = 32
  · subst h32; exact blz_32 b i n c (by omega) hm w hx
  by_cases h0 : x = 0
  · subst h0; exact blz_0 b i n c (by omega) hm w hx
  rw [isBz_no h32 h9 h10 h0]
  by_cases h1 : x = 194
  · subst h1; exact blz_c2 b i n c y (hy (by omega)).1 hm y0 y1 (nb (by have := c2 rfl; omega)) w hx (hy (by omega)).2
  by_cases h2 : x = 226
  · subst h2
    by_cases h3 : y = 128
    · exact blz_e280 b i n c y z (hz (by omega)).1 hm y0 y1 z0 z1 (yb h3) (nb (e2 rfl h3).1) (nb (e2 rfl h3).2) w hx (hy (by omega)).2 (hz (by omega)).2
    · exact blz_e2 b i n c y (hy (by omega)).1 hm y0 y1 (nb h3) w hx (hy (by omega)).2
  exact blz_no b i n c x (by omega) hm x0 (by omega) (nb h32) (nb h9) (nb (fun h => by have := low (by omega); omega)) (nb h10) (nb h0) (nb h1) (nb h2) w hx
/-- A hex digit, and what it is worth. -/
theorem hexd_cases (x : Int) : (hexd x = none ∧ (x < 48 ∨ (57 < x ∧ x < 65) ∨ (70 < x ∧ x < 97) ∨ 102 < x)) ∨ (48 ≤ x ∧ x ≤ 57 ∧ hexd x = some (x - 48)) ∨ (65 ≤ x ∧ x ≤ 70 ∧ hexd x = some (x - 55)) ∨ (97 ≤ x ∧ x ≤ 102 ∧ hexd x = some (x - 87)) := by
  unfold hexd
  by_cases h1 : 48 ≤ x ∧ x ≤ 57
  · rw [if_pos h1]; exact .inr (.inl ⟨h1.1, h1.2, rfl⟩)
  rw [if_neg h1]
  by_cases h2 : 97 ≤ x ∧ x ≤ 102
  · rw [if_pos h2]; exact .inr (.inr (.inr ⟨h2.1, h2.2, rfl⟩))
  rw [if_neg h2]
  by_cases h3 : 65 ≤ x ∧ x ≤ 70
  · rw [if_pos h3]; exact .inr (.inr (.inl ⟨h3.1, h3.2, rfl⟩))
  rw [if_neg h3]
  exact .inl ⟨rfl, by omega⟩
theorem hex_any (b i n c : Nat) (x : Int) (hi : i < n) (hm : n ≤ 70000) (hx0 : 0 ≤ x) (hx1 : x ≤ 255) (w : World) (hx : w.cell? ⟨b, i, none⟩ = some (.int .u8 x)) :
    Calls Tryd.prog 117 #[.slice (some ⟨b, 0, none⟩) n c, .int .i64 i] w fun e w' => (e = .returned (.bool (hexd x).isSome)) ∧ w' = w := by
  rcases hexd_cases x with ⟨h, h1 | h1 | h1 | h1⟩ | ⟨h1, h2, h⟩ | ⟨h1, h2, h⟩ | ⟨h1, h2, h⟩
  all_goals rw [h]
  · exact hex_0 b i n c x (by omega) hm hx0 hx1 (by omega) (by omega) w hx
  · exact hex_58 b i n c x (by omega) hm hx0 hx1 (by omega) (by omega) w hx
  · exact hex_71 b i n c x (by omega) hm hx0 hx1 (by omega) (by omega) w hx
  · exact hex_103 b i n c x (by omega) hm hx0 hx1 (by omega) (by omega) w hx
  · exact hex_48 b i n c x (by omega) hm hx0 hx1 (by omega) (by omega) w hx
  · exact hex_65 b i n c x (by omega) hm hx0 hx1 (by omega) (by omega) w hx
  · exact hex_97 b i n c x (by omega) hm hx0 hx1 (by omega) (by omega) w hx
theorem ash_any (b i n c : Nat) (x d : Int) (hi : i < n) (hm : n ≤ 70000) (hd : hexd x = some d) (w : World) (hx : w.cell? ⟨b, i, none⟩ = some (.int .u8 x)) :
    Calls Tryd.prog 118 #[.slice (some ⟨b, 0, none⟩) n c, .int .i64 i] w fun e w' => (e = .returned (.int .i64 d)) ∧ w' = w := by
  rcases hexd_cases x with ⟨h, h1⟩ | ⟨h1, h2, h⟩ | ⟨h1, h2, h⟩ | ⟨h1, h2, h⟩
  all_goals
    rw [h] at hd
    cases hd
  · exact ash_48 b i n c x (by omega) hm (by omega) (by omega) (by omega) (by omega) w hx
  · exact ash_65 b i n c x (by omega) hm (by omega) (by omega) (by omega) (by omega) w hx
  · exact ash_97 b i n c x (by omega) hm (by omega) (by omega) (by omega) (by omega) w hx
theorem hexd_range {x d : Int} (h : hexd x = some d) : 0 ≤ d ∧ d ≤ 15 ∧ 48 ≤ x ∧ x ≤ 102 := by
  rcases hexd_cases x with ⟨h', h1⟩ | ⟨h1, h2, h'⟩ | ⟨h1, h2, h'⟩ | ⟨h1, h2, h'⟩
  all_goals
    rw [h'] at h
    cases h
    try omega

end Go.Proofs.YtocbbekciphjgaaDoor.Qd
