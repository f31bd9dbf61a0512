/- Ahead of the loop: the first three bytes. Printed by genLnE.py. -/
import Derived.Test.YtcmnjnogdpejfaaDoorLnI
namespace Go.Proofs.YtcmnjnogdpejfaaDoor.Ln
open Go.RowKit
set_option linter.unusedVariables false
set_option linter.unusedSimpArgs false
/-- A frame ahead of the loop. -/
structure In0 (p b n cp : Nat) (a : Act) : Prop where
  size : a.tmps.size = 321
  defers : a.defers = []
  s0 : gt a 0 = .pointer (some ⟨p, 0, none⟩)
  s1 : gt a 1 = .slice (some ⟨b, 0, none⟩) n cp
  s7 : gt a 7 = .bool false
  f5 : ∃ x, gt a 5 = .bool x
  f6 : ∃ x, gt a 6 = .bool x
  f8 : ∃ x, gt a 8 = .bool x
  f9 : ∃ x, gt a 9 = .bool x
  f10 : ∃ x, gt a 10 = .bool x
  f11 : ∃ x, gt a 11 = .bool x
  f12 : ∃ x, gt a 12 = .bool x
  f13 : ∃ x, gt a 13 = .bool x
  f14 : ∃ x, gt a 14 = .bool x
  f15 : ∃ x, gt a 15 = .bool x
  f16 : ∃ x, gt a 16 = .bool x
  f17 : ∃ x, gt a 17 = .bool x
  f18 : ∃ x, gt a 18 = .bool x
  f19 : ∃ x, gt a 19 = .bool x
set_option maxHeartbeats 32000000 in
set_option maxRecDepth 100000 in
theorem c27_any {p b n cp : Nat} {a : Act} {w : World} {K : Act → World → Prop} {Q : Exit → Act → World → Prop} (hI : In0 p b n cp a) (hK : ∀ a', In0 p b n cp a' → K a' w) : c27.wp Tryd.prog (Exit.then K Q) a w := by
  obtain ⟨v5, e5⟩ := hI.f5
  obtain ⟨v6, e6⟩ := hI.f6
  obtain ⟨v8, e8⟩ := hI.f8
  obtain ⟨v9, e9⟩ := hI.f9
  obtain ⟨v10, e10⟩ := hI.f10
  obtain ⟨v11, e11⟩ := hI.f11
  obtain ⟨v12, e12⟩ := hI.f12
  obtain ⟨v13, e13⟩ := hI.f13
  obtain ⟨v14, e14⟩ := hI.f14
  obtain ⟨v15, e15⟩ := hI.f15
  obtain ⟨v16, e16⟩ := hI.f16
  obtain ⟨v17, e17⟩ := hI.f17
  obtain ⟨v18, e18⟩ := hI.f18
  obtain ⟨v19, e19⟩ := hI.f19
  rw [lit321 a hI.size hI.defers, hI.s0, hI.s1, hI.s7, e5, e6, e8, e9, e10, e11, e12, e13, e14, e15, e16, e17, e18, e19]
  clear e5 e6 e8 e9 e10 e11 e12 e13 e14 e15 e16 e17 e18 e19
  have HKK := Lib.hid hK
  clear hK hI
  conv => arg 2; whnf
  try simp only [List.append]
  go_wp2_with fail
  exact HKK.out _ ⟨rfl, rfl, rfl, rfl, rfl, ⟨_, rfl⟩, ⟨_, rfl⟩, ⟨_, rfl⟩, ⟨_, rfl⟩, ⟨_, rfl⟩, ⟨_, rfl⟩, ⟨_, rfl⟩, ⟨_, rfl⟩, ⟨_, rfl⟩, ⟨_, rfl⟩, ⟨_, rfl⟩, ⟨_, rfl⟩, ⟨_, rfl⟩, ⟨_, rfl⟩⟩
set_option maxHeartbeats 32000000 in
set_option maxRecDepth 100000 in
theorem c28_any {p b n cp : Nat} {a : Act} {w : World} {K : Act → World → Prop} {Q : Exit → Act → World → Prop} (hI : In0 p b n cp a) (hK : ∀ a', In p b n cp 0 (.int .i64 0) false a' → K a' w) : c28.wp Tryd.prog (Exit.then K Q) a w := by
  obtain ⟨v5, e5⟩ := hI.f5
  obtain ⟨v6, e6⟩ := hI.f6
  obtain ⟨v8, e8⟩ := hI.f8
  obtain ⟨v9, e9⟩ := hI.f9
  obtain ⟨v10, e10⟩ := hI.f10
  obtain ⟨v11, e11⟩ := hI.f11
  obtain ⟨v12, e12⟩ := hI.f12
  obtain ⟨v13, e13⟩ := hI.f13
  obtain ⟨v14, e14⟩ := hI.f14
  obtain ⟨v15, e15⟩ := hI.f15
  obtain ⟨v16, e16⟩ := hI.f16
  obtain ⟨v17, e17⟩ := hI.f17
  obtain ⟨v18, e18⟩ := hI.f18
  obtain ⟨v19, e19⟩ := hI.f19
  rw [lit321 a hI.size hI.defers, hI.s0, hI.s1, hI.s7, e5, e6, e8, e9, e10, e11, e12, e13, e14, e15, e16, e17, e18, e19]
  clear e5 e6 e8 e9 e10 e11 e12 e13 e14 e15 e16 e17 e18 e19
  have HKK := Lib.hid hK
  clear hK hI
  conv => arg 2; whnf
  try simp only [List.append]
  go_wp2_with fail
  exact HKK.out _ ⟨rfl, rfl, rfl, rfl, rfl, rfl, rfl, ⟨_, rfl⟩, ⟨_, rfl⟩, ⟨_, rfl⟩, ⟨_, rfl⟩, ⟨_, rfl⟩, ⟨_, rfl⟩, ⟨_, rfl⟩, ⟨_, rfl⟩, ⟨_, rfl⟩, ⟨_, rfl⟩, ⟨_, rfl⟩, ⟨_, rfl⟩, ⟨_, rfl⟩, ⟨_, rfl⟩⟩
set_option maxHeartbeats 32000000 in
set_option maxRecDepth 100000 in
theorem c24_few {p b n cp : Nat} {a : Act} {w : World} {K : Act → World → Prop} {Q : Exit → Act → World → Prop} (hI : In0 p b n cp a) (hm : n ≤ 70000)  (hn : n < 3) (hK : ∀ a', In0 p b n cp a' → K a' w) : c24.wp Tryd.prog (Exit.then K Q) a w := by
  have j1 : ¬ ((3 : Int) ≤ (n : Int)) := by omega
  have j2 : decide ((3 : Int) ≤ (n : Int)) = false := decide_eq_false j1
  obtain ⟨v5, e5⟩ := hI.f5
  obtain ⟨v6, e6⟩ := hI.f6
  obtain ⟨v8, e8⟩ := hI.f8
  obtain ⟨v9, e9⟩ := hI.f9
  obtain ⟨v10, e10⟩ := hI.f10
  obtain ⟨v11, e11⟩ := hI.f11
  obtain ⟨v12, e12⟩ := hI.f12
  obtain ⟨v13, e13⟩ := hI.f13
  obtain ⟨v14, e14⟩ := hI.f14
  obtain ⟨v15, e15⟩ := hI.f15
  obtain ⟨v16, e16⟩ := hI.f16
  obtain ⟨v17, e17⟩ := hI.f17
  obtain ⟨v18, e18⟩ := hI.f18
  obtain ⟨v19, e19⟩ := hI.f19
  rw [lit321 a hI.size hI.defers, hI.s0, hI.s1, hI.s7, e5, e6, e8, e9, e10, e11, e12, e13, e14, e15, e16, e17, e18, e19]
  clear e5 e6 e8 e9 e10 e11 e12 e13 e14 e15 e16 e17 e18 e19
  have HKK := Lib.hid hK
  clear hK hI
  conv => arg 2; whnf
  try simp only [List.append]
  repeat' (first | exact HKK.out _ ⟨rfl, rfl, rfl, rfl, rfl, ⟨_, rfl⟩, ⟨_, rfl⟩, ⟨_, rfl⟩, ⟨_, rfl⟩, ⟨_, rfl⟩, ⟨_, rfl⟩, ⟨_, rfl⟩, ⟨_, rfl⟩, ⟨_, rfl⟩, ⟨_, rfl⟩, ⟨_, rfl⟩, ⟨_, rfl⟩, ⟨_, rfl⟩, ⟨_, rfl⟩⟩ | go_wp2_with fail)
set_option maxHeartbeats 32000000 in
set_option maxRecDepth 100000 in
theorem c24_00 {p b n cp : Nat} {a : Act} {w : World} {K : Act → World → Prop} {Q : Exit → Act → World → Prop} (hI : In0 p b n cp a) (hm : n ≤ 70000) (x0 x1 x2 : Int) (h0 : w.cell? ⟨b, 0, none⟩ = some (.int .u8 x0)) (h1 : w.cell? ⟨b, 1, none⟩ = some (.int .u8 x1)) (h2 : w.cell? ⟨b, 2, none⟩ = some (.int .u8 x2)) (hn : 3 ≤ n) (a0 : (x0 == 45) = false) (b0 : (x0 == 46) = false) (hK : ∀ a', In0 p b n cp a' → K a' w) : c24.wp Tryd.prog (Exit.then K Q) a w := by
  have j1 : (3 : Int) ≤ (n : Int) := by omega
  have j2 : decide ((3 : Int) ≤ (n : Int)) = true := decide_eq_true j1
  have j3 : (0 : Int) < (n : Int) := by omega
  have j4 : (1 : Int) < (n : Int) := by omega
  have j5 : (2 : Int) < (n : Int) := by omega
  obtain ⟨v5, e5⟩ := hI.f5
  obtain ⟨v6, e6⟩ := hI.f6
  obtain ⟨v8, e8⟩ := hI.f8
  obtain ⟨v9, e9⟩ := hI.f9
  obtain ⟨v10, e10⟩ := hI.f10
  obtain ⟨v11, e11⟩ := hI.f11
  obtain ⟨v12, e12⟩ := hI.f12
  obtain ⟨v13, e13⟩ := hI.f13
  obtain ⟨v14, e14⟩ := hI.f14
  obtain ⟨v15, e15⟩ := hI.f15
  obtain ⟨v16, e16⟩ := hI.f16
  obtain ⟨v17, e17⟩ := hI.f17
  obtain ⟨v18, e18⟩ := hI.f18
  obtain ⟨v19, e19⟩ := hI.f19
  rw [lit321 a hI.size hI.defers, hI.s0, hI.s1, hI.s7, e5, e6, e8, e9, e10, e11, e12, e13, e14, e15, e16, e17, e18, e19]
  clear e5 e6 e8 e9 e10 e11 e12 e13 e14 e15 e16 e17 e18 e19
  have HKK := Lib.hid hK
  clear hK hI
  conv => arg 2; whnf
  try simp only [List.append]
  repeat' (first | exact HKK.out _ ⟨rfl, rfl, rfl, rfl, rfl, ⟨_, rfl⟩, ⟨_, rfl⟩, ⟨_, rfl⟩, ⟨_, rfl⟩, ⟨_, rfl⟩, ⟨_, rfl⟩, ⟨_, rfl⟩, ⟨_, rfl⟩, ⟨_, rfl⟩, ⟨_, rfl⟩, ⟨_, rfl⟩, ⟨_, rfl⟩, ⟨_, rfl⟩, ⟨_, rfl⟩⟩ | go_wp2_with fail)
set_option maxHeartbeats 32000000 in
set_option maxRecDepth 100000 in
theorem c24_01 {p b n cp : Nat} {a : Act} {w : World} {K : Act → World → Prop} {Q : Exit → Act → World → Prop} (hI : In0 p b n cp a) (hm : n ≤ 70000) (x0 x1 x2 : Int) (h0 : w.cell? ⟨b, 0, none⟩ = some (.int .u8 x0)) (h1 : w.cell? ⟨b, 1, none⟩ = some (.int .u8 x1)) (h2 : w.cell? ⟨b, 2, none⟩ = some (.int .u8 x2)) (hn : 3 ≤ n) (a0 : (x0 == 45) = false) (b0 : (x0 == 46) = true) (b1 : (x1 == 46) = false) (hK : ∀ a', In0 p b n cp a' → K a' w) : c24.wp Tryd.prog (Exit.then K Q) a w := by
  have j1 : (3 : Int) ≤ (n : Int) := by omega
  have j2 : decide ((3 : Int) ≤ (n : Int)) = true := decide_eq_true j1
  have j3 : (0 : Int) < (n : Int) := by omega
  have j4 : (1 : Int) < (n : Int) := by omega
  have j5 : (2 : Int) < (n : Int) := by omega
  obtain ⟨v5, e5⟩ := hI.f5
  obtain ⟨v6, e6⟩ := hI.f6
  obtain ⟨v8, e8⟩ := hI.f8
  obtain ⟨v9, e9⟩ := hI.f9
  obtain ⟨v10, e10⟩ := hI.f10
  obtain ⟨v11, e11⟩ := hI.f11
  obtain ⟨v12, e12⟩ := hI.f12
  obtain ⟨v13, e13⟩ := hI.f13
  obtain ⟨v14, e14⟩ := hI.f14
  obtain ⟨v15, e15⟩ := hI.f15
  obtain ⟨v16, e16⟩ := hI.f16
  obtain ⟨v17, e17⟩ := hI.f17
  obtain ⟨v18, e18⟩ := hI.f18
  obtain ⟨v19, e19⟩ := hI.f19
  rw [lit321 a hI.size hI.defers, hI.s0, hI.s1, hI.s7, e5, e6, e8, e9, e10, e11, e12, e13, e14, e15, e16, e17, e18, e19]
  clear e5 e6 e8 e9 e10 e11 e12 e13 e14 e15 e16 e17 e18 e19
  have HKK := Lib.hid hK
  clear hK hI
  conv => arg 2; whnf
  try simp only [List.append]
  repeat' (first | exact HKK.out _ ⟨rfl, rfl, rfl, rfl, rfl, ⟨_, rfl⟩, ⟨_, rfl⟩, ⟨_, rfl⟩, ⟨_, rfl⟩, ⟨_, rfl⟩, ⟨_, rfl⟩, ⟨_, rfl⟩, ⟨_, rfl⟩, ⟨_, rfl⟩, ⟨_, rfl⟩, ⟨_, rfl⟩, ⟨_, rfl⟩, ⟨_, rfl⟩, ⟨_, rfl⟩⟩ | go_wp2_with fail)
set_option maxHeartbeats 32000000 in
set_option maxRecDepth 100000 in
theorem c24_02 {p b n cp : Nat} {a : Act} {w : World} {K : Act → World → Prop} {Q : Exit → Act → World → Prop} (hI : In0 p b n cp a) (hm : n ≤ 70000) (x0 x1 x2 : Int) (h0 : w.cell? ⟨b, 0, none⟩ = some (.int .u8 x0)) (h1 : w.cell? ⟨b, 1, none⟩ = some (.int .u8 x1)) (h2 : w.cell? ⟨b, 2, none⟩ = some (.int .u8 x2)) (hn : 3 ≤ n) (a0 : (x0 == 45) = false) (b0 : (x0 == 46) = true) (b1 : (x1 == 46) = true) (b2 : (x2 == 46) = false) (hK : ∀ a', In0 p b n cp a' → K a' w) : c24.wp Tryd.prog (Exit.then K Q) a w := by
  have j1 : (3 : Int) ≤ (n : Int) := by omega
  have j2 : decide ((3 : Int) ≤ (n : Int)) = true := decide_eq_true j1
  have j3 : (0 : Int) < (n : Int) := by omega
  have j4 : (1 : Int) < (n : Int) := by omega
  have j5 : (2 : Int) < (n : Int) := by omega
  obtain ⟨v5, e5⟩ := hI.f5
  obtain ⟨v6, e6⟩ := hI.f6
  obtain ⟨v8, e8⟩ := hI.f8
  obtain ⟨v9, e9⟩ := hI.f9
  obtain ⟨v10, e10⟩ := hI.f10
  obtain ⟨v11, e11⟩ := hI.f11
  obtain ⟨v12, e12⟩ := hI.f12
  obtain ⟨v13, e13⟩ := hI.f13
  obtain ⟨v14, e14⟩ := hI.f14
  obtain ⟨v15, e15⟩ := hI.f15
  obtain ⟨v16, e16⟩ := hI.f16
  obtain ⟨v17, e17⟩ := hI.f17
  obtain ⟨v18, e18⟩ := hI.f18
  obtain ⟨v19, e19⟩ := hI.f19
  rw [lit321 a hI.size hI.defers, hI.s0, hI.s1, hI.s7, e5, e6, e8, e9, e10, e11, e12, e13, e14, e15, e16, e17, e18, e19]
  clear e5 e6 e8 e9 e10 e11 e12 e13 e14 e15 e16 e17 e18 e19
  have HKK := Lib.hid hK
  clear hK hI
  conv => arg 2; whnf
  try simp only [List.append]
  repeat' (first | exact HKK.out _ ⟨rfl, rfl, rfl, rfl, rfl, ⟨_, rfl⟩, ⟨_, rfl⟩, ⟨_, rfl⟩, ⟨_, rfl⟩, ⟨_, rfl⟩, ⟨_, rfl⟩, ⟨_, rfl⟩, ⟨_, rfl⟩, ⟨_, rfl⟩, ⟨_, rfl⟩, ⟨_, rfl⟩, ⟨_, rfl⟩, ⟨_, rfl⟩, ⟨_, rfl⟩⟩ | go_wp2_with fail)
set_option maxHeartbeats 32000000 in
set_option maxRecDepth 100000 in
theorem c24_03 {p b n cp : Nat} {a : Act} {w : World} {K : Act → World → Prop} {Q : Exit → Act → World → Prop} (hI : In0 p b n cp a) (hm : n ≤ 70000) (x0 x1 x2 : Int) (h0 : w.cell? ⟨b, 0, none⟩ = some (.int .u8 x0)) (h1 : w.cell? ⟨b, 1, none⟩ = some (.int .u8 x1)) (h2 : w.cell? ⟨b, 2, none⟩ = some (.int .u8 x2)) (hn : 3 ≤ n) (a0 : (x0 == 45) = false) (b0 : (x0 == 46) = true) (b1 : (x1 == 46) = true) (b2 : (x2 == 46) = true) (hK : ∀ a', In0 p b n cp a' → K a' w) : c24.wp Tryd.prog (Exit.then K Q) a w := by
  have j1 : (3 : Int) ≤ (n : Int) := by omega
  have j2 : decide ((3 : Int) ≤ (n : Int)) = true := decide_eq_true j1
  have j3 : (0 : Int) < (n : Int) := by omega
  have j4 : (1 : Int) < (n : Int) := by omega
  have j5 : (2 : Int) < (n : Int) := by omega
  obtain ⟨v5, e5⟩ := hI.f5
  obtain ⟨v6, e6⟩ := hI.f6
  obtain ⟨v8, e8⟩ := hI.f8
  obtain ⟨v9, e9⟩ := hI.f9
  obtain ⟨v10, e10⟩ := hI.f10
  obtain ⟨v11, e11⟩ := hI.f11
  obtain ⟨v12, e12⟩ := hI.f12
  obtain ⟨v13, e13⟩ := hI.f13
  obtain ⟨v14, e14⟩ := hI.f14
  obtain ⟨v15, e15⟩ := hI.f15
  obtain ⟨v16, e16⟩ := hI.f16
  obtain ⟨v17, e17⟩ := hI.f17
  obtain ⟨v18, e18⟩ := hI.f18
  obtain ⟨v19, e19⟩ := hI.f19
  rw [lit321 a hI.size hI.defers, hI.s0, hI.s1, hI.s7, e5, e6, e8, e9, e10, e11, e12, e13, e14, e15, e16, e17, e18, e19]
  clear e5 e6 e8 e9 e10 e11 e12 e13 e14 e15 e16 e17 e18 e19
  have HKK := Lib.hid hK
  clear hK hI
  conv => arg 2; whnf
  try simp only [List.append]
  repeat' (first | exact HKK.out _ ⟨rfl, rfl, rfl, rfl, rfl, ⟨_, rfl⟩, ⟨_, rfl⟩, ⟨_, rfl⟩, ⟨_, rfl⟩, ⟨_, rfl⟩, ⟨_, rfl⟩, ⟨_, rfl⟩, ⟨_, rfl⟩, ⟨_, rfl⟩, ⟨_, rfl⟩, ⟨_, rfl⟩, ⟨_, rfl⟩, ⟨_, rfl⟩, ⟨_, rfl⟩⟩ | go_wp2_with fail)
set_option maxHeartbeats 32000000 in
set_option maxRecDepth 100000 in
theorem c24_10 {p b n cp : Nat} {a : Act} {w : World} {K : Act → World → Prop} {Q : Exit → Act → World → Prop} (hI : In0 p b n cp a) (hm : n ≤ 70000) (x0 x1 x2 : Int) (h0 : w.cell? ⟨b, 0, none⟩ = some (.int .u8 x0)) (h1 : w.cell? ⟨b, 1, none⟩ = some (.int .u8 x1)) (h2 : w.cell? ⟨b, 2, none⟩ = some (.int .u8 x2)) (hn : 3 ≤ n) (a0 : (x0 == 45) = true) (a1 : (x1 == 45) = false) (b0 : (x0 == 46) = false) (hK : ∀ a', In0 p b n cp a' → K a' w) : c24.wp Tryd.prog (Exit.then K Q) a w := by
  have j1 : (3 : Int) ≤ (n : Int) := by omega
  have j2 : decide ((3 : Int) ≤ (n : Int)) = true := decide_eq_true j1
  have j3 : (0 : Int) < (n : Int) := by omega
  have j4 : (1 : Int) < (n : Int) := by omega
  have j5 : (2 : Int) < (n : Int) := by omega
  obtain ⟨v5, e5⟩ := hI.f5
  obtain ⟨v6, e6⟩ := hI.f6
  obtain ⟨v8, e8⟩ := hI.f8
  obtain ⟨v9, e9⟩ := hI.f9
  obtain ⟨v10, e10⟩ := hI.f10
  obtain ⟨v11, e11⟩ := hI.f11
  obtain ⟨v12, e12⟩ := hI.f12
  obtain ⟨v13, e13⟩ := hI.f13
  obtain ⟨v14, e14⟩ := hI.f14
  obtain ⟨v15, e15⟩ := hI.f15
  obtain ⟨v16, e16⟩ := hI.f16
  obtain ⟨v17, e17⟩ := hI.f17
  obtain ⟨v18, e18⟩ := hI.f18
  obtain ⟨v19, e19⟩ := hI.f19
  rw [lit321 a hI.size hI.defers, hI.s0, hI.s1, hI.s7, e5, e6, e8, e9, e10, e11, e12, e13, e14, e15, e16, e17, e18, e19]
  clear e5 e6 e8 e9 e10 e11 e12 e13 e14 e15 e16 e17 e18 e19
  have HKK := Lib.hid hK
  clear hK hI
  conv => arg 2; whnf
  try simp only [List.append]
  repeat' (first | exact HKK.out _ ⟨rfl, rfl, rfl, rfl, rfl, ⟨_, rfl⟩, ⟨_, rfl⟩, ⟨_, rfl⟩, ⟨_, rfl⟩, ⟨_, rfl⟩, ⟨_, rfl⟩, ⟨_, rfl⟩, ⟨_, rfl⟩, ⟨_, rfl⟩, ⟨_, rfl⟩, ⟨_, rfl⟩, ⟨_, rfl⟩, ⟨_, rfl⟩, ⟨_, rfl⟩⟩ | go_wp2_with fail)
set_option maxHeartbeats 32000000 in
set_option maxRecDepth 100000 in
theorem c24_11 {p b n cp : Nat} {a : Act} {w : World} {K : Act → World → Prop} {Q : Exit → Act → World → Prop} (hI : In0 p b n cp a) (hm : n ≤ 70000) (x0 x1 x2 : Int) (h0 : w.cell? ⟨b, 0, none⟩ = some (.int .u8 x0)) (h1 : w.cell? ⟨b, 1, none⟩ = some (.int .u8 x1)) (h2 : w.cell? ⟨b, 2, none⟩ = some (.int .u8 x2)) (hn : 3 ≤ n) (a0 : (x0 == 45) = true) (a1 : (x1 == 45) = false) (b0 : (x0 == 46) = true) (b1 : (x1 == 46) = false) (hK : ∀ a', In0 p b n cp a' → K a' w) : c24.wp Tryd.prog (Exit.then K Q) a w := by
  have j1 : (3 : Int) ≤ (n : Int) := by omega
  have j2 : decide ((3 : Int) ≤ (n : Int)) = true := decide_eq_true j1
  have j3 : (0 : Int) < (n : Int) := by omega
  have j4 : (1 : Int) < (n : Int) := by omega
  have j5 : (2 : Int) < (n : Int) := by omega
  obtain ⟨v5, e5⟩ := hI.f5
  obtain ⟨v6, e6⟩ := hI.f6
  obtain ⟨v8, e8⟩ := hI.f8
  obtain ⟨v9, e9⟩ := hI.f9
  obtain ⟨v10, e10⟩ := hI.f10
  obtain ⟨v11, e11⟩ := hI.f11
  obtain ⟨v12, e12⟩ := hI.f12
  obtain ⟨v13, e13⟩ := hI.f13
  obtain ⟨v14, e14⟩ := hI.f14
  obtain ⟨v15, e15⟩ := hI.f15
  obtain ⟨v16, e16⟩ := hI.f16
  obtain ⟨v17, e17⟩ := hI.f17
  obtain ⟨v18, e18⟩ := hI.f18
  obtain ⟨v19, e19⟩ := hI.f19
  rw [lit321 a hI.size hI.defers, hI.s0, hI.s1, hI.s7, e5, e6, e8, e9, e10, e11, e12, e13, e14, e15, e16, e17, e18, e19]
  clear e5 e6 e8 e9 e10 e11 e12 e13 e14 e15 e16 e17 e18 e19
  have HKK := Lib.hid hK
  clear hK hI
  conv => arg 2; whnf
  try simp only [List.append]
  repeat' (first | exact HKK.out _ ⟨rfl, rfl, rfl, rfl, rfl, ⟨_, rfl⟩, ⟨_, rfl⟩, ⟨_, rfl⟩, ⟨_, rfl⟩, ⟨_, rfl⟩, ⟨_, rfl⟩, ⟨_, rfl⟩, ⟨_, rfl⟩, ⟨_, rfl⟩, ⟨_, rfl⟩, ⟨_, rfl⟩, ⟨_, rfl⟩, ⟨_, rfl⟩, ⟨_, rfl⟩⟩ | go_wp2_with fail)
set_option maxHeartbeats 32000000 in
set_option maxRecDepth 100000 in
theorem c24_12 {p b n cp : Nat} {a : Act} {w : World} {K : Act → World → Prop} {Q : Exit → Act → World → Prop} (hI : In0 p b n cp a) (hm : n ≤ 70000) (x0 x1 x2 : Int) (h0 : w.cell? ⟨b, 0, none⟩ = some (.int .u8 x0)) (h1 : w.cell? ⟨b, 1, none⟩ = some (.int .u8 x1)) (h2 : w.cell? ⟨b, 2, none⟩ = some (.int .u8 x2)) (hn : 3 ≤ n) (a0 : (x0 == 45) = true) (a1 : (x1 == 45) = false) (b0 : (x0 == 46) = true) (b1 : (x1 == 46) = true) (b2 : (x2 == 46) = false) (hK : ∀ a', In0 p b n cp a' → K a' w) : c24.wp Tryd.prog (Exit.then K Q) a w := by
  have j1 : (3 : Int) ≤ (n : Int) := by omega
  have j2 : decide ((3 : Int) ≤ (n : Int)) = true := decide_eq_true j1
  have j3 : (0 : Int) < (n : Int) := by omega
  have j4 : (1 : Int) < (n : Int) := by omega
  have j5 : (2 : Int) < (n : Int) := by omega
  obtain ⟨v5, e5⟩ := hI.f5
  obtain ⟨v6, e6⟩ := hI.f6
  obtain ⟨v8, e8⟩ := hI.f8
  obtain ⟨v9, e9⟩ := hI.f9
  obtain ⟨v10, e10⟩ := hI.f10
  obtain ⟨v11, e11⟩ := hI.f11
  obtain ⟨v12, e12⟩ := hI.f12
  obtain ⟨v13, e13⟩ := hI.f13
  obtain ⟨v14, e14⟩ := hI.f14
  obtain ⟨v15, e15⟩ := hI.f15
  obtain ⟨v16, e16⟩ := hI.f16
  obtain ⟨v17, e17⟩ := hI.f17
  obtain ⟨v18, e18⟩ := hI.f18
  obtain ⟨v19, e19⟩ := hI.f19
  rw [lit321 a hI.size hI.defers, hI.s0, hI.s1, hI.s7, e5, e6, e8, e9, e10, e11, e12, e13, e14, e15, e16, e17, e18, e19]
  clear e5 e6 e8 e9 e10 e11 e12 e13 e14 e15 e16 e17 e18 e19
  have HKK := Lib.hid hK
  clear hK hI
  conv => arg 2; whnf
  try simp only [List.append]
  repeat' (first | exact HKK.out _ ⟨rfl, rfl, rfl, rfl, rfl, ⟨_, rfl⟩, ⟨_, rfl⟩, ⟨_, rfl⟩, ⟨_, rfl⟩, ⟨_, rfl⟩, ⟨_, rfl⟩, ⟨_, rfl⟩, ⟨_, rfl⟩, ⟨_, rfl⟩, ⟨_, rfl⟩, ⟨_, rfl⟩, ⟨_, rfl⟩, ⟨_, rfl⟩, ⟨_, rfl⟩⟩ | go_wp2_with fail)
set_option maxHeartbeats 32000000 in
set_option maxRecDepth 100000 in
theorem c24_13 {p b n cp : Nat} {a : Act} {w : World} {K : Act → World → Prop} {Q : Exit → Act → World → Prop} (hI : In0 p b n cp a) (hm : n ≤ 70000) (x0 x1 x2 : Int) (h0 : w.cell? ⟨b, 0, none⟩ = some (.int .u8 x0)) (h1 : w.cell? ⟨b, 1, none⟩ = some (.int .u8 x1)) (h2 : w.cell? ⟨b, 2, none⟩ = some (.int .u8 x2)) (hn : 3 ≤ n) (a0 : (x0 == 45) = true) (a1 : (x1 == 45) = false) (b0 : (x0 == 46) = true) (b1 : (x1 == 46) = true) (b2 : (x2 == 46) = true) (hK : ∀ a', In0 p b n cp a' → K a' w) : c24.wp Tryd.prog (Exit.then K Q) a w := by
  have j1 : (3 : Int) ≤ (n : Int) := by omega
  have j2 : decide ((3 : Int) ≤ (n : Int)) = true := decide_eq_true j1
  have j3 : (0 : Int) < (n : Int) := by omega
  have j4 : (1 : Int) < (n : Int) := by omega
  have j5 : (2 : Int) < (n : Int) := by omega
  obtain ⟨v5, e5⟩ := hI.f5
  obtain ⟨v6, e6⟩ := hI.f6
  obtain ⟨v8, e8⟩ := hI.f8
  obtain ⟨v9, e9⟩ := hI.f9
  obtain ⟨v10, e10⟩ := hI.f10
  obtain ⟨v11, e11⟩ := hI.f11
  obtain ⟨v12, e12⟩ := hI.f12
  obtain ⟨v13, e13⟩ := hI.f13
  obtain ⟨v14, e14⟩ := hI.f14
  obtain ⟨v15, e15⟩ := hI.f15
  obtain ⟨v16, e16⟩ := hI.f16
  obtain ⟨v17, e17⟩ := hI.f17
  obtain ⟨v18, e18⟩ := hI.f18
  obtain ⟨v19, e19⟩ := hI.f19
  rw [lit321 a hI.size hI.defers, hI.s0, hI.s1, hI.s7, e5, e6, e8, e9, e10, e11, e12, e13, e14, e15, e16, e17, e18, e19]
  clear e5 e6 e8 e9 e10 e11 e12 e13 e14 e15 e16 e17 e18 e19
  have HKK := Lib.hid hK
  clear hK hI
  conv => arg 2; whnf
  try simp only [List.append]
  repeat' (first | exact HKK.out _ ⟨rfl, rfl, rfl, rfl, rfl, ⟨_, rfl⟩, ⟨_, rfl⟩, ⟨_, rfl⟩, ⟨_, rfl⟩, ⟨_, rfl⟩, ⟨_, rfl⟩, ⟨_, rfl⟩, ⟨_, rfl⟩, ⟨_, rfl⟩, ⟨_, rfl⟩, ⟨_, rfl⟩, ⟨_, rfl⟩, ⟨_, rfl⟩, ⟨_, rfl⟩⟩ | go_wp2_with fail)
set_option maxHeartbeats 32000000 in
set_option maxRecDepth 100000 in
theorem c24_20 {p b n cp : Nat} {a : Act} {w : World} {K : Act → World → Prop} {Q : Exit → Act → World → Prop} (hI : In0 p b n cp a) (hm : n ≤ 70000) (x0 x1 x2 : Int) (h0 : w.cell? ⟨b, 0, none⟩ = some (.int .u8 x0)) (h1 : w.cell? ⟨b, 1, none⟩ = some (.int .u8 x1)) (h2 : w.cell? ⟨b, 2, none⟩ = some (.int .u8 x2)) (hn : 3 ≤ n) (a0 : (x0 == 45) = true) (a1 : (x1 == 45) = true) (a2 : (x2 == 45) = false) (b0 : (x0 == 46) = false) (hK : ∀ a', In0 p b n cp a' → K a' w) : c24.wp Tryd.prog (Exit.then K Q) a w := by
  have j1 : (3 : Int) ≤ (n : Int) := by omega
  have j2 : decide ((3 : Int) ≤ (n : Int)) = true := decide_eq_true j1
  have j3 : (0 : Int) < (n : Int) := by omega
  have j4 : (1 : Int) < (n : Int) := by omega
  have j5 : (2 : Int) < (n : Int) := by omega
  obtain ⟨v5, e5⟩ := hI.f5
  obtain ⟨v6, e6⟩ := hI.f6
  obtain ⟨v8, e8⟩ := hI.f8
  obtain ⟨v9, e9⟩ := hI.f9
  obtain ⟨v10, e10⟩ := hI.f10
  obtain ⟨v11, e11⟩ := hI.f11
  obtain ⟨v12, e12⟩ := hI.f12
  obtain ⟨v13, e13⟩ := hI.f13
  obtain ⟨v14, e14⟩ := hI.f14
  obtain ⟨v15, e15⟩ := hI.f15
  obtain ⟨v16, e16⟩ := hI.f16
  obtain ⟨v17, e17⟩ := hI.f17
  obtain ⟨v18, e18⟩ := hI.f18
  obtain ⟨v19, e19⟩ := hI.f19
  rw [lit321 a hI.size hI.defers, hI.s0, hI.s1, hI.s7, e5, e6, e8, e9, e10, e11, e12, e13, e14, e15, e16, e17, e18, e19]
  clear e5 e6 e8 e9 e10 e11 e12 e13 e14 e15 e16 e17 e18 e19
  have HKK := Lib.hid hK
  clear hK hI
  conv => arg 2; whnf
  try simp only [List.append]
  repeat' (first | exact HKK.out _ ⟨rfl, rfl, rfl, rfl, rfl, ⟨_, rfl⟩, ⟨_, rfl⟩, ⟨_, rfl⟩, ⟨_, rfl⟩, ⟨_, rfl⟩, ⟨_, rfl⟩, ⟨_, rfl⟩, ⟨_, rfl⟩, ⟨_, rfl⟩, ⟨_, rfl⟩, ⟨_, rfl⟩, ⟨_, rfl⟩, ⟨_, rfl⟩, ⟨_, rfl⟩⟩ | go_wp2_with fail)
set_option maxHeartbeats 32000000 in
set_option maxRecDepth 100000 in
theorem c24_21 {p b n cp : Nat} {a : Act} {w : World} {K : Act → World → Prop} {Q : Exit → Act → World → Prop} (hI : In0 p b n cp a) (hm : n ≤ 70000) (x0 x1 x2 : Int) (h0 : w.cell? ⟨b, 0, none⟩ = some (.int .u8 x0)) (h1 : w.cell? ⟨b, 1, none⟩ = some (.int .u8 x1)) (h2 : w.cell? ⟨b, 2, none⟩ = some (.int .u8 x2)) (hn : 3 ≤ n) (a0 : (x0 == 45) = true) (a1 : (x1 == 45) = true) (a2 : (x2 == 45) = false) (b0 : (x0 == 46) = true) (b1 : (x1 == 46) = false) (hK : ∀ a', In0 p b n cp a' → K a' w) : c24.wp Tryd.prog (Exit.then K Q) a w := by
  have j1 : (3 : Int) ≤ (n : Int) := by omega
  have j2 : decide ((3 : Int) ≤ (n : Int)) = true := decide_eq_true j1
  have j3 : (0 : Int) < (n : Int) := by omega
  have j4 : (1 : Int) < (n : Int) := by omega
  have j5 : (2 : Int) < (n : Int) := by omega
  obtain ⟨v5, e5⟩ := hI.f5
  obtain ⟨v6, e6⟩ := hI.f6
  obtain ⟨v8, e8⟩ := hI.f8
  obtain ⟨v9, e9⟩ := hI.f9
  obtain ⟨v10, e10⟩ := hI.f10
  obtain ⟨v11, e11⟩ := hI.f11
  obtain ⟨v12, e12⟩ := hI.f12
  obtain ⟨v13, e13⟩ := hI.f13
  obtain ⟨v14, e14⟩ := hI.f14
  obtain ⟨v15, e15⟩ := hI.f15
  obtain ⟨v16, e16⟩ := hI.f16
  obtain ⟨v17, e17⟩ := hI.f17
  obtain ⟨v18, e18⟩ := hI.f18
  obtain ⟨v19, e19⟩ := hI.f19
  rw [lit321 a hI.size hI.defers, hI.s0, hI.s1, hI.s7, e5, e6, e8, e9, e10, e11, e12, e13, e14, e15, e16, e17, e18, e19]
  clear e5 e6 e8 e9 e10 e11 e12 e13 e14 e15 e16 e17 e18 e19
  have HKK := Lib.hid hK
  clear hK hI
  conv => arg 2; whnf
  try simp only [List.append]
  repeat' (first | exact HKK.out _ ⟨rfl, rfl, rfl, rfl, rfl, ⟨_, rfl⟩, ⟨_, rfl⟩, ⟨_, rfl⟩, ⟨_, rfl⟩, ⟨_, rfl⟩, ⟨_, rfl⟩, ⟨_, rfl⟩, ⟨_, rfl⟩, ⟨_, rfl⟩, ⟨_, rfl⟩, ⟨_, rfl⟩, ⟨_, rfl⟩, ⟨_, rfl⟩, ⟨_, rfl⟩⟩ | go_wp2_with fail)
set_option maxHeartbeats 32000000 in
set_option maxRecDepth 100000 in
theorem c24_22 {p b n cp : Nat} {a : Act} {w : World} {K : Act → World → Prop} {Q : Exit → Act → World → Prop} (hI : In0 p b n cp a) (hm : n ≤ 70000) (x0 x1 x2 : Int) (h0 : w.cell? ⟨b, 0, none⟩ = some (.int .u8 x0)) (h1 : w.cell? ⟨b, 1, none⟩ = some (.int .u8 x1)) (h2 : w.cell? ⟨b, 2, none⟩ = some (.int .u8 x2)) (hn : 3 ≤ n) (a0 : (x0 == 45) = true) (a1 : (x1 == 45) = true) (a2 : (x2 == 45) = false) (b0 : (x0 == 46) = true) (b1 : (x1 == 46) = true) (b2 : (x2 == 46) = false) (hK : ∀ a', In0 p b n cp a' → K a' w) : c24.wp Tryd.prog (Exit.then K Q) a w := by
  have j1 : (3 : Int) ≤ (n : Int) := by omega
  have j2 : decide ((3 : Int) ≤ (n : Int)) = true := decide_eq_true j1
  have j3 : (0 : Int) < (n : Int) := by omega
  have j4 : (1 : Int) < (n : Int) := by omega
  have j5 : (2 : Int) < (n : Int) := by omega
  obtain ⟨v5, e5⟩ := hI.f5
  obtain ⟨v6, e6⟩ := hI.f6
  obtain ⟨v8, e8⟩ := hI.f8
  obtain ⟨v9, e9⟩ := hI.f9
  obtain ⟨v10, e10⟩ := hI.f10
  obtain ⟨v11, e11⟩ := hI.f11
  obtain ⟨v12, e12⟩ := hI.f12
  obtain ⟨v13, e13⟩ := hI.f13
  obtain ⟨v14, e14⟩ := hI.f14
  obtain ⟨v15, e15⟩ := hI.f15
  obtain ⟨v16, e16⟩ := hI.f16
  obtain ⟨v17, e17⟩ := hI.f17
  obtain ⟨v18, e18⟩ := hI.f18
  obtain ⟨v19, e19⟩ := hI.f19
  rw [lit321 a hI.size hI.defers, hI.s0, hI.s1, hI.s7, e5, e6, e8, e9, e10, e11, e12, e13, e14, e15, e16, e17, e18, e19]
  clear e5 e6 e8 e9 e10 e11 e12 e13 e14 e15 e16 e17 e18 e19
  have HKK := Lib.hid hK
  clear hK hI
  conv => arg 2; whnf
  try simp only [List.append]
  repeat' (first | exact HKK.out _ ⟨rfl, rfl, rfl, rfl, rfl, ⟨_, rfl⟩, ⟨_, rfl⟩, ⟨_, rfl⟩, ⟨_, rfl⟩, ⟨_, rfl⟩, ⟨_, rfl⟩, ⟨_, rfl⟩, ⟨_, rfl⟩, ⟨_, rfl⟩, ⟨_, rfl⟩, ⟨_, rfl⟩, ⟨_, rfl⟩, ⟨_, rfl⟩, ⟨_, rfl⟩⟩ | go_wp2_with fail)
set_option maxHeartbeats 32000000 in
set_option maxRecDepth 100000 in
theorem c24_23 {p b n cp : Nat} {a : Act} {w : World} {K : Act → World → Prop} {Q : Exit → Act → World → Prop} (hI : In0 p b n cp a) (hm : n ≤ 70000) (x0 x1 x2 : Int) (h0 : w.cell? ⟨b, 0, none⟩ = some (.int .u8 x0)) (h1 : w.cell? ⟨b, 1, none⟩ = some (.int .u8 x1)) (h2 : w.cell? ⟨b, 2, none⟩ = some (.int .u8 x2)) (hn : 3 ≤ n) (a0 : (x0 == 45) = true) (a1 : (x1 == 45) = true) (a2 : (x2 == 45) = false) (b0 : (x0 == 46) = true) (b1 : (x1 == 46) = true) (b2 : (x2 == 46) = true) (hK : ∀ a', In0 p b n cp a' → K a' w) : c24.wp Tryd.prog (Exit.then K Q) a w := by
  have j1 : (3 : Int) ≤ (n : Int) := by omega
  have j2 : decide ((3 : Int) ≤ (n : Int)) = true := decide_eq_true j1
  have j3 : (0 : Int) < (n : Int) := by omega
  have j4 : (1 : Int) < (n : Int) := by omega
  have j5 : (2 : Int) < (n : Int) := by omega
  obtain ⟨v5, e5⟩ := hI.f5
  obtain ⟨v6, e6⟩ := hI.f6
  obtain ⟨v8, e8⟩ := hI.f8
  obtain ⟨v9, e9⟩ := hI.f9
  obtain ⟨v10, e10⟩ := hI.f10
  obtain ⟨v11, e11⟩ := hI.f11
  obtain ⟨v12, e12⟩ := hI.f12
  obtain ⟨v13, e13⟩ := hI.f13
  obtain ⟨v14, e14⟩ := hI.f14
  obtain ⟨v15, e15⟩ := hI.f15
  obtain ⟨v16, e16⟩ := hI.f16
  obtain ⟨v17, e17⟩ := hI.f17
  obtain ⟨v18, e18⟩ := hI.f18
  obtain ⟨v19, e19⟩ := hI.f19
  rw [lit321 a hI.size hI.defers, hI.s0, hI.s1, hI.s7, e5, e6, e8, e9, e10, e11, e12, e13, e14, e15, e16, e17, e18, e19]
  clear e5 e6 e8 e9 e10 e11 e12 e13 e14 e15 e16 e17 e18 e19
  have HKK := Lib.hid hK
  clear hK hI
  conv => arg 2; whnf
  try simp only [List.append]
  repeat' (first | exact HKK.out _ ⟨rfl, rfl, rfl, rfl, rfl, ⟨_, rfl⟩, ⟨_, rfl⟩, ⟨_, rfl⟩, ⟨_, rfl⟩, ⟨_, rfl⟩, ⟨_, rfl⟩, ⟨_, rfl⟩, ⟨_, rfl⟩, ⟨_, rfl⟩, ⟨_, rfl⟩, ⟨_, rfl⟩, ⟨_, rfl⟩, ⟨_, rfl⟩, ⟨_, rfl⟩⟩ | go_wp2_with fail)
set_option maxHeartbeats 32000000 in
set_option maxRecDepth 100000 in
theorem c24_3 {p b n cp : Nat} {a : Act} {w : World} {K : Act → World → Prop} {Q : Exit → Act → World → Prop} (hI : In0 p b n cp a) (hm : n ≤ 70000) (x0 x1 x2 : Int) (h0 : w.cell? ⟨b, 0, none⟩ = some (.int .u8 x0)) (h1 : w.cell? ⟨b, 1, none⟩ = some (.int .u8 x1)) (h2 : w.cell? ⟨b, 2, none⟩ = some (.int .u8 x2)) (hn : 3 ≤ n) (a0 : (x0 == 45) = true) (a1 : (x1 == 45) = true) (a2 : (x2 == 45) = true) (hK : ∀ a', In0 p b n cp a' → K a' w) : c24.wp Tryd.prog (Exit.then K Q) a w := by
  have j1 : (3 : Int) ≤ (n : Int) := by omega
  have j2 : decide ((3 : Int) ≤ (n : Int)) = true := decide_eq_true j1
  have j3 : (0 : Int) < (n : Int) := by omega
  have j4 : (1 : Int) < (n : Int) := by omega
  have j5 : (2 : Int) < (n : Int) := by omega
  obtain ⟨v5, e5⟩ := hI.f5
  obtain ⟨v6, e6⟩ := hI.f6
  obtain ⟨v8, e8⟩ := hI.f8
  obtain ⟨v9, e9⟩ := hI.f9
  obtain ⟨v10, e10⟩ := hI.f10
  obtain ⟨v11, e11⟩ := hI.f11
  obtain ⟨v12, e12⟩ := hI.f12
  obtain ⟨v13, e13⟩ := hI.f13
  obtain ⟨v14, e14⟩ := hI.f14
  obtain ⟨v15, e15⟩ := hI.f15
  obtain ⟨v16, e16⟩ := hI.f16
  obtain ⟨v17, e17⟩ := hI.f17
  obtain ⟨v18, e18⟩ := hI.f18
  obtain ⟨v19, e19⟩ := hI.f19
  rw [lit321 a hI.size hI.defers, hI.s0, hI.s1, hI.s7, e5, e6, e8, e9, e10, e11, e12, e13, e14, e15, e16, e17, e18, e19]
  clear e5 e6 e8 e9 e10 e11 e12 e13 e14 e15 e16 e17 e18 e19
  have HKK := Lib.hid hK
  clear hK hI
  conv => arg 2; whnf
  try simp only [List.append]
  repeat' (first | exact HKK.out _ ⟨rfl, rfl, rfl, rfl, rfl, ⟨_, rfl⟩, ⟨_, rfl⟩, ⟨_, rfl⟩, ⟨_, rfl⟩, ⟨_, rfl⟩, ⟨_, rfl⟩, ⟨_, rfl⟩, ⟨_, rfl⟩, ⟨_, rfl⟩, ⟨_, rfl⟩, ⟨_, rfl⟩, ⟨_, rfl⟩, ⟨_, rfl⟩, ⟨_, rfl⟩⟩ | go_wp2_with fail)
theorem c24_any {p b n cp : Nat} {a : Act} {w : World} {K : Act → World → Prop} {Q : Exit → Act → World → Prop} (hI : In0 p b n cp a) (hm : n ≤ 70000) (hc : ∀ j, j < n → ∃ x : Int, w.cell? ⟨b, j, none⟩ = some (.int .u8 x)) (hK : ∀ a', In0 p b n cp a' → K a' w) : c24.wp Tryd.prog (Exit.then K Q) a w := by
  by_cases hn3 : n < 3
  · exact c24_few hI hm hn3 hK
  have hn3 : 3 ≤ n := by omega
  obtain ⟨x0, h0⟩ := hc 0 (by omega)
  obtain ⟨x1, h1⟩ := hc 1 (by omega)
  obtain ⟨x2, h2⟩ := hc 2 (by omega)
  cases a0 : (x0 == 45)
  · cases b0 : (x0 == 46)
    · exact c24_00 hI hm x0 x1 x2 h0 h1 h2 hn3 a0 b0 hK
    cases b1 : (x1 == 46)
    · exact c24_01 hI hm x0 x1 x2 h0 h1 h2 hn3 a0 b0 b1 hK
    cases b2 : (x2 == 46)
    · exact c24_02 hI hm x0 x1 x2 h0 h1 h2 hn3 a0 b0 b1 b2 hK
    · exact c24_03 hI hm x0 x1 x2 h0 h1 h2 hn3 a0 b0 b1 b2 hK
  cases a1 : (x1 == 45)
  · cases b0 : (x0 == 46)
    · exact c24_10 hI hm x0 x1 x2 h0 h1 h2 hn3 a0 a1 b0 hK
    cases b1 : (x1 == 46)
    · exact c24_11 hI hm x0 x1 x2 h0 h1 h2 hn3 a0 a1 b0 b1 hK
    cases b2 : (x2 == 46)
    · exact c24_12 hI hm x0 x1 x2 h0 h1 h2 hn3 a0 a1 b0 b1 b2 hK
    · exact c24_13 hI hm x0 x1 x2 h0 h1 h2 hn3 a0 a1 b0 b1 b2 hK
  cases a2 : (x2 == 45)
  · cases b0 : (x0 == 46)
    · exact c24_20 hI hm x0 x1 x2 h0 h1 h2 hn3 a0 a1 a2 b0 hK
    cases b1 : (x1 == 46)
    · exact c24_21 hI hm x0 x1 x2 h0 h1 h2 hn3 a0 a1 a2 b0 b1 hK
    cases b2 : (x2 == 46)
    · exact c24_22 hI hm x0 x1 x2 h0 h1 h2 hn3 a0 a1 a2 b0 b1 b2 hK
    · exact c24_23 hI hm x0 x1 x2 h0 h1 h2 hn3 a0 a1 a2 b0 b1 b2 hK
  · exact c24_3 hI hm x0 x1 x2 h0 h1 h2 hn3 a0 a1 a2 hK
end Go.Proofs.YtcmnjnogdpejfaaDoor.Ln
