/- FnResolveInts: the law's walk. Printed by genRiL.py. -/
import Derived.Test.YtpdfamigmkeflaaDoorRiK
import Derived.Laws.StructEq
import Derived.Deep.Cut
namespace Go.Proofs.YtpdfamigmkeflaaDoor.Ri
open Go.RowKit Go.Lib
set_option linter.unusedVariables false
set_option linter.unusedSimpArgs false
/-- The tables that the law reads. -/
def Tabs (w : World) : Prop := TabIs Tryd.prog w "internal/strconv.uint64pow10" .u64 pow10Tab ∧ w.cell? ⟨2, 15, none⟩ = some (.int .u8 4) ∧ w.cell? ⟨2, 7, none⟩ = some (.int .u8 3)
theorem hS26 : Tryd.prog.underlying 26 = some (.struct (Tryd.prog.fieldsOf 26)) := by kernel_rfl
theorem hp26 : Tryd.prog.stoodInHeld 26 = false := by kernel_rfl
theorem eqf (d : Nat) (t : TypeId) (w : World) (h : Tryd.prog.underlying t = some (.float .f64)) : (Op.equalIn (d + 1) t (.float .f64 0) (.float .f64 0)).run Tryd.prog w = .ok true w := by
  simp [Op.equalIn, run_underlying h]
  rfl
set_option maxRecDepth 100000 in
theorem eq_sc (V : Int) (w : World) : (binOp .eql 26 (.agg (sc V).toArray) (.agg (sc V).toArray)).run Tryd.prog w = .ok (.bool true) w := by
  have u3 := Tryd.underlying3
  have u2 := Tryd.underlying2
  have u4 := Tryd.underlying4
  have u9 := Tryd.underlying9
  have u23 := Tryd.underlying23
  have u24 := Tryd.underlying24
  have hf := fun d w => eqf d 24 w Tryd.underlying24
  rw [run_eql_struct, show (10000 : Nat) = 9999 + 1 from rfl, run_equalIn_agg w 9999 26 _ _ hS26 hp26]
  simp only [Program.fieldsOf, Tryd.underlying26]
  unfold sc
  go_simp
theorem int_list : (⟨#[33, 33, 105, 110, 116]⟩ : ByteArray).toList = [33, 33, 105, 110, 116] := by rw [toList_data]
set_option maxHeartbeats 4000000 in
set_option maxRecDepth 100000 in
theorem law_p0 (u : Nat) (hu : u ≤ 9223372036854775807) (f : Int) (hf0 : 0 ≤ f) (hf1 : f ≤ 255) (hm : f % 4 = 0) (w : World) (hT : Tabs w) (hg : 2 < w.heap.size) :
    Calls Tryd.prog 3 #[.int .i64 (u : Nat), .int .u8 f] w fun e w' => e = .returned (.bool true) ∧ Below w.heap.size w w' := by
  have hit : itoa (u : Int) = decDigits u := by unfold itoa; rw [if_neg (by omega), Int.toNat_natCast]
  have hf10 := fmt_10 (u : Int) (by omega) (by omega) w hT.1
  rw [hit] at hf10
  have hl := dec_len u 20 (by omega) (by omega)
  have hsz := S_size (decDigits u)
  have hz : Rz (decDigits u) (u : Int) := rz_plain u hu
  have j0 : (0 : Int) ≤ (u : Int) := by omega
  have j1 : decide ((0 : Int) ≤ (u : Int)) = true := decide_eq_true j0
  obtain ⟨V, hV⟩ : ∃ V : Int, V = (u : Int) := ⟨_, rfl⟩
  rw [← hV] at hz
  have HI := Lib.hid (fun w => impl_any (decDigits u) V hz w)
  have HF := Lib.hid hf10
  clear hf10 hz hT hit
  go_enter Tryd.func3, Tryd.ntmps3
  go_wp2_with fail
  refine HF.out.mono ?_
  rintro e w1 ⟨rfl, hb1⟩
  have HB1 := Lib.hid hb1
  clear hb1
  go_wp2_with fail
  have HB2 := HB1
  refine (HI.out _).mono ?_
  rintro e w3 ⟨rfl, hb3⟩
  have HB3 := Lib.hid (HB2.out.trans (hb3.mono HB2.out.size))
  clear hb3
  unfold tagInt sc
  subst hV
  have heq := eq_sc (u : Int)
  have hsf : ∀ (a : Addr) (m : Mode) (w : World) (x : Nat), (store a (.float .f64 x) m).run Tryd.prog w = stored Tryd.prog w a (.float .f64 x) m := fun a m w x => run_store _ w a _ m rfl
  unfold sc at heq
  have hil := int_list
  go_upto_region 9 with fail
  obtain ⟨w4, HW4⟩ : ∃ w4 : World, Hid (w3.alloc (Obj.cells #[.int .i64 2, .bool false, .int .i64 (u : Int), .int .u64 0, .float .f64 0, .string ⟨#[]⟩] 26) = w4) := ⟨_, rfl⟩
  obtain ⟨nq, HNQ⟩ : ∃ nq, Hid (w3.heap.size = nq) := ⟨_, rfl⟩
  have hk : Bk w4 nq 26 [.int .i64 2, .bool false, .int .i64 (u : Int), .int .u64 0, .float .f64 0, .string ⟨#[]⟩] := by rw [← HNQ.out, ← HW4.out]; exact Bk.new w3 _ 26
  have HB4 := Lib.hid (show Below w.heap.size w w4 by rw [← HW4.out]; exact HB3.out.alloc HB3.out.size _)
  rw [HW4.out, HNQ.out]
  obtain ⟨q0, k0⟩ := at_ hk 0 rfl
  obtain ⟨q1, k1⟩ := at_ hk 1 rfl
  obtain ⟨q2, k2⟩ := at_ hk 2 rfl
  obtain ⟨q3, k3⟩ := at_ hk 3 rfl
  obtain ⟨q4, k4⟩ := at_ hk 4 rfl
  obtain ⟨q5, k5⟩ := at_ hk 5 rfl
  clear hk
  go_wp2_with fail
  go_ret
  exact ⟨rfl, HB4.out⟩
set_option maxHeartbeats 4000000 in
set_option maxRecDepth 100000 in
theorem law_p1 (u : Nat) (hu : u ≤ 9223372036854775807) (f : Int) (hf0 : 0 ≤ f) (hf1 : f ≤ 255) (hm : f % 4 = 1) (w : World) (hT : Tabs w) (hg : 2 < w.heap.size) :
    Calls Tryd.prog 3 #[.int .i64 (u : Nat), .int .u8 f] w fun e w' => e = .returned (.bool true) ∧ Below w.heap.size w w' := by
  have hit : itoa (u : Int) = decDigits u := by unfold itoa; rw [if_neg (by omega), Int.toNat_natCast]
  have hf10 := fmt_10 (u : Int) (by omega) (by omega) w hT.1
  rw [hit] at hf10
  have hl := dec_len u 20 (by omega) (by omega)
  have hsz := S_size (decDigits u)
  have hz : Rz (43 :: decDigits u) (u : Int) := rz_plus u hu
  have j0 : (0 : Int) ≤ (u : Int) := by omega
  have j1 : decide ((0 : Int) ≤ (u : Int)) = true := decide_eq_true j0
  obtain ⟨V, hV⟩ : ∃ V : Int, V = (u : Int) := ⟨_, rfl⟩
  rw [← hV] at hz
  have HI := Lib.hid (fun w => impl_any (43 :: decDigits u) V hz w)
  have HF := Lib.hid hf10
  clear hf10 hz hT hit
  go_enter Tryd.func3, Tryd.ntmps3
  go_wp2_with fail
  refine HF.out.mono ?_
  rintro e w1 ⟨rfl, hb1⟩
  have HB1 := Lib.hid hb1
  clear hb1
  go_wp2_with fail
  have HB2 := HB1
  rw [show (⟨#[43]⟩ : ByteArray) ++ S (decDigits u) = S (43 :: decDigits u) from S_append [43] _]
  refine (HI.out _).mono ?_
  rintro e w3 ⟨rfl, hb3⟩
  have HB3 := Lib.hid (HB2.out.trans (hb3.mono HB2.out.size))
  clear hb3
  unfold tagInt sc
  subst hV
  have heq := eq_sc (u : Int)
  have hsf : ∀ (a : Addr) (m : Mode) (w : World) (x : Nat), (store a (.float .f64 x) m).run Tryd.prog w = stored Tryd.prog w a (.float .f64 x) m := fun a m w x => run_store _ w a _ m rfl
  unfold sc at heq
  have hil := int_list
  go_upto_region 9 with fail
  obtain ⟨w4, HW4⟩ : ∃ w4 : World, Hid (w3.alloc (Obj.cells #[.int .i64 2, .bool false, .int .i64 (u : Int), .int .u64 0, .float .f64 0, .string ⟨#[]⟩] 26) = w4) := ⟨_, rfl⟩
  obtain ⟨nq, HNQ⟩ : ∃ nq, Hid (w3.heap.size = nq) := ⟨_, rfl⟩
  have hk : Bk w4 nq 26 [.int .i64 2, .bool false, .int .i64 (u : Int), .int .u64 0, .float .f64 0, .string ⟨#[]⟩] := by rw [← HNQ.out, ← HW4.out]; exact Bk.new w3 _ 26
  have HB4 := Lib.hid (show Below w.heap.size w w4 by rw [← HW4.out]; exact HB3.out.alloc HB3.out.size _)
  rw [HW4.out, HNQ.out]
  obtain ⟨q0, k0⟩ := at_ hk 0 rfl
  obtain ⟨q1, k1⟩ := at_ hk 1 rfl
  obtain ⟨q2, k2⟩ := at_ hk 2 rfl
  obtain ⟨q3, k3⟩ := at_ hk 3 rfl
  obtain ⟨q4, k4⟩ := at_ hk 4 rfl
  obtain ⟨q5, k5⟩ := at_ hk 5 rfl
  clear hk
  go_wp2_with fail
  go_ret
  exact ⟨rfl, HB4.out⟩
set_option maxHeartbeats 4000000 in
set_option maxRecDepth 100000 in
theorem law_p2 (u : Nat) (hu : u ≤ 9223372036854775807) (f : Int) (hf0 : 0 ≤ f) (hf1 : f ≤ 255) (hm : f % 4 = 2) (w : World) (hT : Tabs w) (hg : 2 < w.heap.size) :
    Calls Tryd.prog 3 #[.int .i64 (u : Nat), .int .u8 f] w fun e w' => e = .returned (.bool true) ∧ Below w.heap.size w w' := by
  have hit : itoa (u : Int) = decDigits u := by unfold itoa; rw [if_neg (by omega), Int.toNat_natCast]
  have hf10 := fmt_10 (u : Int) (by omega) (by omega) w hT.1
  rw [hit] at hf10
  have hl := dec_len u 20 (by omega) (by omega)
  have hsz := S_size (decDigits u)
  have hz : Rz (48 :: 120 :: dig 16 16 u) (u : Int) := rz_16 u hu
  have j0 : (0 : Int) ≤ (u : Int) := by omega
  have j1 : decide ((0 : Int) ≤ (u : Int)) = true := decide_eq_true j0
  have hl2 := dig_len 16 16 u
  have hsz2 := S_size (dig 16 16 u)
  have HF2 := Lib.hid (fun w2 (hb : Below w.heap.size w w2) => fmt_16 u hu w2 ((hb.cell (p := ⟨2, 15, none⟩) hg).trans hT.2.1) (by have := hb.size; omega))
  obtain ⟨V, hV⟩ : ∃ V : Int, V = (u : Int) := ⟨_, rfl⟩
  rw [← hV] at hz
  have HI := Lib.hid (fun w => impl_any (48 :: 120 :: dig 16 16 u) V hz w)
  have HF := Lib.hid hf10
  clear hf10 hz hT hit
  go_enter Tryd.func3, Tryd.ntmps3
  go_wp2_with fail
  refine HF.out.mono ?_
  rintro e w1 ⟨rfl, hb1⟩
  have HB1 := Lib.hid hb1
  clear hb1
  go_wp2_with fail
  refine (HF2.out _ HB1.out).mono ?_
  rintro e w2 ⟨rfl, hb2⟩
  have HB2 := Lib.hid (HB1.out.trans (hb2.mono HB1.out.size))
  clear hb2
  go_wp2_with fail
  rw [show (⟨#[48, 120]⟩ : ByteArray) ++ S (dig 16 16 u) = S (48 :: 120 :: dig 16 16 u) from S_append [48, 120] _]
  refine (HI.out _).mono ?_
  rintro e w3 ⟨rfl, hb3⟩
  have HB3 := Lib.hid (HB2.out.trans (hb3.mono HB2.out.size))
  clear hb3
  unfold tagInt sc
  subst hV
  have heq := eq_sc (u : Int)
  have hsf : ∀ (a : Addr) (m : Mode) (w : World) (x : Nat), (store a (.float .f64 x) m).run Tryd.prog w = stored Tryd.prog w a (.float .f64 x) m := fun a m w x => run_store _ w a _ m rfl
  unfold sc at heq
  have hil := int_list
  go_upto_region 9 with fail
  obtain ⟨w4, HW4⟩ : ∃ w4 : World, Hid (w3.alloc (Obj.cells #[.int .i64 2, .bool false, .int .i64 (u : Int), .int .u64 0, .float .f64 0, .string ⟨#[]⟩] 26) = w4) := ⟨_, rfl⟩
  obtain ⟨nq, HNQ⟩ : ∃ nq, Hid (w3.heap.size = nq) := ⟨_, rfl⟩
  have hk : Bk w4 nq 26 [.int .i64 2, .bool false, .int .i64 (u : Int), .int .u64 0, .float .f64 0, .string ⟨#[]⟩] := by rw [← HNQ.out, ← HW4.out]; exact Bk.new w3 _ 26
  have HB4 := Lib.hid (show Below w.heap.size w w4 by rw [← HW4.out]; exact HB3.out.alloc HB3.out.size _)
  rw [HW4.out, HNQ.out]
  obtain ⟨q0, k0⟩ := at_ hk 0 rfl
  obtain ⟨q1, k1⟩ := at_ hk 1 rfl
  obtain ⟨q2, k2⟩ := at_ hk 2 rfl
  obtain ⟨q3, k3⟩ := at_ hk 3 rfl
  obtain ⟨q4, k4⟩ := at_ hk 4 rfl
  obtain ⟨q5, k5⟩ := at_ hk 5 rfl
  clear hk
  go_wp2_with fail
  go_ret
  exact ⟨rfl, HB4.out⟩
set_option maxHeartbeats 4000000 in
set_option maxRecDepth 100000 in
theorem law_p3 (u : Nat) (hu : u ≤ 9223372036854775807) (f : Int) (hf0 : 0 ≤ f) (hf1 : f ≤ 255) (hm : f % 4 = 3) (w : World) (hT : Tabs w) (hg : 2 < w.heap.size) :
    Calls Tryd.prog 3 #[.int .i64 (u : Nat), .int .u8 f] w fun e w' => e = .returned (.bool true) ∧ Below w.heap.size w w' := by
  have hit : itoa (u : Int) = decDigits u := by unfold itoa; rw [if_neg (by omega), Int.toNat_natCast]
  have hf10 := fmt_10 (u : Int) (by omega) (by omega) w hT.1
  rw [hit] at hf10
  have hl := dec_len u 20 (by omega) (by omega)
  have hsz := S_size (decDigits u)
  have hz : Rz (48 :: 111 :: dig 8 22 u) (u : Int) := rz_8 u hu
  have j0 : (0 : Int) ≤ (u : Int) := by omega
  have j1 : decide ((0 : Int) ≤ (u : Int)) = true := decide_eq_true j0
  have hl2 := dig_len 8 22 u
  have hsz2 := S_size (dig 8 22 u)
  have HF2 := Lib.hid (fun w2 (hb : Below w.heap.size w w2) => fmt_8 u hu w2 ((hb.cell (p := ⟨2, 7, none⟩) hg).trans hT.2.2) (by have := hb.size; omega))
  obtain ⟨V, hV⟩ : ∃ V : Int, V = (u : Int) := ⟨_, rfl⟩
  rw [← hV] at hz
  have HI := Lib.hid (fun w => impl_any (48 :: 111 :: dig 8 22 u) V hz w)
  have HF := Lib.hid hf10
  clear hf10 hz hT hit
  go_enter Tryd.func3, Tryd.ntmps3
  go_wp2_with fail
  refine HF.out.mono ?_
  rintro e w1 ⟨rfl, hb1⟩
  have HB1 := Lib.hid hb1
  clear hb1
  go_wp2_with fail
  refine (HF2.out _ HB1.out).mono ?_
  rintro e w2 ⟨rfl, hb2⟩
  have HB2 := Lib.hid (HB1.out.trans (hb2.mono HB1.out.size))
  clear hb2
  go_wp2_with fail
  rw [show (⟨#[48, 111]⟩ : ByteArray) ++ S (dig 8 22 u) = S (48 :: 111 :: dig 8 22 u) from S_append [48, 111] _]
  refine (HI.out _).mono ?_
  rintro e w3 ⟨rfl, hb3⟩
  have HB3 := Lib.hid (HB2.out.trans (hb3.mono HB2.out.size))
  clear hb3
  unfold tagInt sc
  subst hV
  have heq := eq_sc (u : Int)
  have hsf : ∀ (a : Addr) (m : Mode) (w : World) (x : Nat), (store a (.float .f64 x) m).run Tryd.prog w = stored Tryd.prog w a (.float .f64 x) m := fun a m w x => run_store _ w a _ m rfl
  unfold sc at heq
  have hil := int_list
  go_upto_region 9 with fail
  obtain ⟨w4, HW4⟩ : ∃ w4 : World, Hid (w3.alloc (Obj.cells #[.int .i64 2, .bool false, .int .i64 (u : Int), .int .u64 0, .float .f64 0, .string ⟨#[]⟩] 26) = w4) := ⟨_, rfl⟩
  obtain ⟨nq, HNQ⟩ : ∃ nq, Hid (w3.heap.size = nq) := ⟨_, rfl⟩
  have hk : Bk w4 nq 26 [.int .i64 2, .bool false, .int .i64 (u : Int), .int .u64 0, .float .f64 0, .string ⟨#[]⟩] := by rw [← HNQ.out, ← HW4.out]; exact Bk.new w3 _ 26
  have HB4 := Lib.hid (show Below w.heap.size w w4 by rw [← HW4.out]; exact HB3.out.alloc HB3.out.size _)
  rw [HW4.out, HNQ.out]
  obtain ⟨q0, k0⟩ := at_ hk 0 rfl
  obtain ⟨q1, k1⟩ := at_ hk 1 rfl
  obtain ⟨q2, k2⟩ := at_ hk 2 rfl
  obtain ⟨q3, k3⟩ := at_ hk 3 rfl
  obtain ⟨q4, k4⟩ := at_ hk 4 rfl
  obtain ⟨q5, k5⟩ := at_ hk 5 rfl
  clear hk
  go_wp2_with fail
  go_ret
  exact ⟨rfl, HB4.out⟩
set_option maxHeartbeats 4000000 in
set_option maxRecDepth 100000 in
theorem law_n0 (n : Int) (u : Nat) (hn : n = -(u : Int)) (hu1 : 1 ≤ u) (hu : u ≤ 9223372036854775808) (f : Int) (hf0 : 0 ≤ f) (hf1 : f ≤ 255) (hm : f % 4 = 0) (w : World) (hT : Tabs w) (hg : 2 < w.heap.size) :
    Calls Tryd.prog 3 #[.int .i64 n, .int .u8 f] w fun e w' => e = .returned (.bool true) ∧ Below w.heap.size w w' := by
  have hit : itoa n = 45 :: decDigits u := by
    subst hn
    unfold itoa
    rw [if_pos (by omega), Int.natAbs_neg, Int.natAbs_natCast]
  have hf10 := fmt_10 n (by omega) (by omega) w hT.1
  rw [hit] at hf10
  have hl := dec_len u 20 (by omega) (by omega)
  have hsz : (S (45 :: decDigits u)).size = (decDigits u).length + 1 := S_size _
  have hz : Rz (45 :: decDigits u) n := by
    have h := rz_minus u hu
    rw [← hn] at h
    exact h
  have j0 : ¬ ((0 : Int) ≤ n) := by omega
  have j1 : decide ((0 : Int) ≤ n) = false := decide_eq_false j0
  have HN := Lib.hid hn
  clear hn
  have HI := Lib.hid (fun w => impl_any (45 :: decDigits u) n hz w)
  have HF := Lib.hid hf10
  clear hf10 hz hT hit
  go_enter Tryd.func3, Tryd.ntmps3
  go_wp2_with fail
  refine HF.out.mono ?_
  rintro e w1 ⟨rfl, hb1⟩
  have HB1 := Lib.hid hb1
  clear hb1
  go_wp2_with fail
  have HB2 := HB1
  refine (HI.out _).mono ?_
  rintro e w3 ⟨rfl, hb3⟩
  have HB3 := Lib.hid (HB2.out.trans (hb3.mono HB2.out.size))
  clear hb3
  unfold tagInt sc
  have heq := eq_sc n
  have hsf : ∀ (a : Addr) (m : Mode) (w : World) (x : Nat), (store a (.float .f64 x) m).run Tryd.prog w = stored Tryd.prog w a (.float .f64 x) m := fun a m w x => run_store _ w a _ m rfl
  unfold sc at heq
  have hil := int_list
  go_upto_region 9 with fail
  obtain ⟨w4, HW4⟩ : ∃ w4 : World, Hid (w3.alloc (Obj.cells #[.int .i64 2, .bool false, .int .i64 n, .int .u64 0, .float .f64 0, .string ⟨#[]⟩] 26) = w4) := ⟨_, rfl⟩
  obtain ⟨nq, HNQ⟩ : ∃ nq, Hid (w3.heap.size = nq) := ⟨_, rfl⟩
  have hk : Bk w4 nq 26 [.int .i64 2, .bool false, .int .i64 n, .int .u64 0, .float .f64 0, .string ⟨#[]⟩] := by rw [← HNQ.out, ← HW4.out]; exact Bk.new w3 _ 26
  have HB4 := Lib.hid (show Below w.heap.size w w4 by rw [← HW4.out]; exact HB3.out.alloc HB3.out.size _)
  rw [HW4.out, HNQ.out]
  obtain ⟨q0, k0⟩ := at_ hk 0 rfl
  obtain ⟨q1, k1⟩ := at_ hk 1 rfl
  obtain ⟨q2, k2⟩ := at_ hk 2 rfl
  obtain ⟨q3, k3⟩ := at_ hk 3 rfl
  obtain ⟨q4, k4⟩ := at_ hk 4 rfl
  obtain ⟨q5, k5⟩ := at_ hk 5 rfl
  clear hk
  go_wp2_with fail
  go_ret
  exact ⟨rfl, HB4.out⟩
set_option maxHeartbeats 4000000 in
set_option maxRecDepth 100000 in
theorem law_n1 (n : Int) (u : Nat) (hn : n = -(u : Int)) (hu1 : 1 ≤ u) (hu : u ≤ 9223372036854775808) (f : Int) (hf0 : 0 ≤ f) (hf1 : f ≤ 255) (hm : f % 4 = 1) (w : World) (hT : Tabs w) (hg : 2 < w.heap.size) :
    Calls Tryd.prog 3 #[.int .i64 n, .int .u8 f] w fun e w' => e = .returned (.bool true) ∧ Below w.heap.size w w' := by
  have hit : itoa n = 45 :: decDigits u := by
    subst hn
    unfold itoa
    rw [if_pos (by omega), Int.natAbs_neg, Int.natAbs_natCast]
  have hf10 := fmt_10 n (by omega) (by omega) w hT.1
  rw [hit] at hf10
  have hl := dec_len u 20 (by omega) (by omega)
  have hsz : (S (45 :: decDigits u)).size = (decDigits u).length + 1 := S_size _
  have hz : Rz (45 :: decDigits u) n := by
    have h := rz_minus u hu
    rw [← hn] at h
    exact h
  have j0 : ¬ ((0 : Int) ≤ n) := by omega
  have j1 : decide ((0 : Int) ≤ n) = false := decide_eq_false j0
  have HN := Lib.hid hn
  clear hn
  have HI := Lib.hid (fun w => impl_any (45 :: decDigits u) n hz w)
  have HF := Lib.hid hf10
  clear hf10 hz hT hit
  go_enter Tryd.func3, Tryd.ntmps3
  go_wp2_with fail
  refine HF.out.mono ?_
  rintro e w1 ⟨rfl, hb1⟩
  have HB1 := Lib.hid hb1
  clear hb1
  go_wp2_with fail
  have HB2 := HB1
  refine (HI.out _).mono ?_
  rintro e w3 ⟨rfl, hb3⟩
  have HB3 := Lib.hid (HB2.out.trans (hb3.mono HB2.out.size))
  clear hb3
  unfold tagInt sc
  have heq := eq_sc n
  have hsf : ∀ (a : Addr) (m : Mode) (w : World) (x : Nat), (store a (.float .f64 x) m).run Tryd.prog w = stored Tryd.prog w a (.float .f64 x) m := fun a m w x => run_store _ w a _ m rfl
  unfold sc at heq
  have hil := int_list
  go_upto_region 9 with fail
  obtain ⟨w4, HW4⟩ : ∃ w4 : World, Hid (w3.alloc (Obj.cells #[.int .i64 2, .bool false, .int .i64 n, .int .u64 0, .float .f64 0, .string ⟨#[]⟩] 26) = w4) := ⟨_, rfl⟩
  obtain ⟨nq, HNQ⟩ : ∃ nq, Hid (w3.heap.size = nq) := ⟨_, rfl⟩
  have hk : Bk w4 nq 26 [.int .i64 2, .bool false, .int .i64 n, .int .u64 0, .float .f64 0, .string ⟨#[]⟩] := by rw [← HNQ.out, ← HW4.out]; exact Bk.new w3 _ 26
  have HB4 := Lib.hid (show Below w.heap.size w w4 by rw [← HW4.out]; exact HB3.out.alloc HB3.out.size _)
  rw [HW4.out, HNQ.out]
  obtain ⟨q0, k0⟩ := at_ hk 0 rfl
  obtain ⟨q1, k1⟩ := at_ hk 1 rfl
  obtain ⟨q2, k2⟩ := at_ hk 2 rfl
  obtain ⟨q3, k3⟩ := at_ hk 3 rfl
  obtain ⟨q4, k4⟩ := at_ hk 4 rfl
  obtain ⟨q5, k5⟩ := at_ hk 5 rfl
  clear hk
  go_wp2_with fail
  go_ret
  exact ⟨rfl, HB4.out⟩
set_option maxHeartbeats 4000000 in
set_option maxRecDepth 100000 in
theorem law_n2 (n : Int) (u : Nat) (hn : n = -(u : Int)) (hu1 : 1 ≤ u) (hu : u ≤ 9223372036854775808) (f : Int) (hf0 : 0 ≤ f) (hf1 : f ≤ 255) (hm : f % 4 = 2) (w : World) (hT : Tabs w) (hg : 2 < w.heap.size) :
    Calls Tryd.prog 3 #[.int .i64 n, .int .u8 f] w fun e w' => e = .returned (.bool true) ∧ Below w.heap.size w w' := by
  have hit : itoa n = 45 :: decDigits u := by
    subst hn
    unfold itoa
    rw [if_pos (by omega), Int.natAbs_neg, Int.natAbs_natCast]
  have hf10 := fmt_10 n (by omega) (by omega) w hT.1
  rw [hit] at hf10
  have hl := dec_len u 20 (by omega) (by omega)
  have hsz : (S (45 :: decDigits u)).size = (decDigits u).length + 1 := S_size _
  have hz : Rz (45 :: decDigits u) n := by
    have h := rz_minus u hu
    rw [← hn] at h
    exact h
  have j0 : ¬ ((0 : Int) ≤ n) := by omega
  have j1 : decide ((0 : Int) ≤ n) = false := decide_eq_false j0
  have HN := Lib.hid hn
  clear hn
  have HI := Lib.hid (fun w => impl_any (45 :: decDigits u) n hz w)
  have HF := Lib.hid hf10
  clear hf10 hz hT hit
  go_enter Tryd.func3, Tryd.ntmps3
  go_wp2_with fail
  refine HF.out.mono ?_
  rintro e w1 ⟨rfl, hb1⟩
  have HB1 := Lib.hid hb1
  clear hb1
  go_wp2_with fail
  have HB2 := HB1
  refine (HI.out _).mono ?_
  rintro e w3 ⟨rfl, hb3⟩
  have HB3 := Lib.hid (HB2.out.trans (hb3.mono HB2.out.size))
  clear hb3
  unfold tagInt sc
  have heq := eq_sc n
  have hsf : ∀ (a : Addr) (m : Mode) (w : World) (x : Nat), (store a (.float .f64 x) m).run Tryd.prog w = stored Tryd.prog w a (.float .f64 x) m := fun a m w x => run_store _ w a _ m rfl
  unfold sc at heq
  have hil := int_list
  go_upto_region 9 with fail
  obtain ⟨w4, HW4⟩ : ∃ w4 : World, Hid (w3.alloc (Obj.cells #[.int .i64 2, .bool false, .int .i64 n, .int .u64 0, .float .f64 0, .string ⟨#[]⟩] 26) = w4) := ⟨_, rfl⟩
  obtain ⟨nq, HNQ⟩ : ∃ nq, Hid (w3.heap.size = nq) := ⟨_, rfl⟩
  have hk : Bk w4 nq 26 [.int .i64 2, .bool false, .int .i64 n, .int .u64 0, .float .f64 0, .string ⟨#[]⟩] := by rw [← HNQ.out, ← HW4.out]; exact Bk.new w3 _ 26
  have HB4 := Lib.hid (show Below w.heap.size w w4 by rw [← HW4.out]; exact HB3.out.alloc HB3.out.size _)
  rw [HW4.out, HNQ.out]
  obtain ⟨q0, k0⟩ := at_ hk 0 rfl
  obtain ⟨q1, k1⟩ := at_ hk 1 rfl
  obtain ⟨q2, k2⟩ := at_ hk 2 rfl
  obtain ⟨q3, k3⟩ := at_ hk 3 rfl
  obtain ⟨q4, k4⟩ := at_ hk 4 rfl
  obtain ⟨q5, k5⟩ := at_ hk 5 rfl
  clear hk
  go_wp2_with fail
  go_ret
  exact ⟨rfl, HB4.out⟩
set_option maxHeartbeats 4000000 in
set_option maxRecDepth 100000 in
theorem law_n3 (n : Int) (u : Nat) (hn : n = -(u : Int)) (hu1 : 1 ≤ u) (hu : u ≤ 9223372036854775808) (f : Int) (hf0 : 0 ≤ f) (hf1 : f ≤ 255) (hm : f % 4 = 3) (w : World) (hT : Tabs w) (hg : 2 < w.heap.size) :
    Calls Tryd.prog 3 #[.int .i64 n, .int .u8 f] w fun e w' => e = .returned (.bool true) ∧ Below w.heap.size w w' := by
  have hit : itoa n = 45 :: decDigits u := by
    subst hn
    unfold itoa
    rw [if_pos (by omega), Int.natAbs_neg, Int.natAbs_natCast]
  have hf10 := fmt_10 n (by omega) (by omega) w hT.1
  rw [hit] at hf10
  have hl := dec_len u 20 (by omega) (by omega)
  have hsz : (S (45 :: decDigits u)).size = (decDigits u).length + 1 := S_size _
  have hz : Rz (45 :: decDigits u) n := by
    have h := rz_minus u hu
    rw [← hn] at h
    exact h
  have j0 : ¬ ((0 : Int) ≤ n) := by omega
  have j1 : decide ((0 : Int) ≤ n) = false := decide_eq_false j0
  have HN := Lib.hid hn
  clear hn
  have HI := Lib.hid (fun w => impl_any (45 :: decDigits u) n hz w)
  have HF := Lib.hid hf10
  clear hf10 hz hT hit
  go_enter Tryd.func3, Tryd.ntmps3
  go_wp2_with fail
  refine HF.out.mono ?_
  rintro e w1 ⟨rfl, hb1⟩
  have HB1 := Lib.hid hb1
  clear hb1
  go_wp2_with fail
  have HB2 := HB1
  refine (HI.out _).mono ?_
  rintro e w3 ⟨rfl, hb3⟩
  have HB3 := Lib.hid (HB2.out.trans (hb3.mono HB2.out.size))
  clear hb3
  unfold tagInt sc
  have heq := eq_sc n
  have hsf : ∀ (a : Addr) (m : Mode) (w : World) (x : Nat), (store a (.float .f64 x) m).run Tryd.prog w = stored Tryd.prog w a (.float .f64 x) m := fun a m w x => run_store _ w a _ m rfl
  unfold sc at heq
  have hil := int_list
  go_upto_region 9 with fail
  obtain ⟨w4, HW4⟩ : ∃ w4 : World, Hid (w3.alloc (Obj.cells #[.int .i64 2, .bool false, .int .i64 n, .int .u64 0, .float .f64 0, .string ⟨#[]⟩] 26) = w4) := ⟨_, rfl⟩
  obtain ⟨nq, HNQ⟩ : ∃ nq, Hid (w3.heap.size = nq) := ⟨_, rfl⟩
  have hk : Bk w4 nq 26 [.int .i64 2, .bool false, .int .i64 n, .int .u64 0, .float .f64 0, .string ⟨#[]⟩] := by rw [← HNQ.out, ← HW4.out]; exact Bk.new w3 _ 26
  have HB4 := Lib.hid (show Below w.heap.size w w4 by rw [← HW4.out]; exact HB3.out.alloc HB3.out.size _)
  rw [HW4.out, HNQ.out]
  obtain ⟨q0, k0⟩ := at_ hk 0 rfl
  obtain ⟨q1, k1⟩ := at_ hk 1 rfl
  obtain ⟨q2, k2⟩ := at_ hk 2 rfl
  obtain ⟨q3, k3⟩ := at_ hk 3 rfl
  obtain ⟨q4, k4⟩ := at_ hk 4 rfl
  obtain ⟨q5, k5⟩ := at_ hk 5 rfl
  clear hk
  go_wp2_with fail
  go_ret
  exact ⟨rfl, HB4.out⟩
theorem law_walk (n : Int) (f : Int) (hn0 : -9223372036854775808 ≤ n) (hn1 : n ≤ 9223372036854775807) (hf0 : 0 ≤ f) (hf1 : f ≤ 255) (w : World) (hT : Tabs w) (hg : 2 < w.heap.size) :
    Calls Tryd.prog 3 #[.int .i64 n, .int .u8 f] w fun e w' => e = .returned (.bool true) ∧ Below w.heap.size w w' := by
  have hm : f % 4 = 0 ∨ f % 4 = 1 ∨ f % 4 = 2 ∨ f % 4 = 3 := by omega
  by_cases h : n < 0
  · rcases hm with hm | hm | hm | hm
    · exact law_n0 n n.natAbs (by omega) (by omega) (by omega) f hf0 hf1 hm w hT hg
    · exact law_n1 n n.natAbs (by omega) (by omega) (by omega) f hf0 hf1 hm w hT hg
    · exact law_n2 n n.natAbs (by omega) (by omega) (by omega) f hf0 hf1 hm w hT hg
    · exact law_n3 n n.natAbs (by omega) (by omega) (by omega) f hf0 hf1 hm w hT hg
  · obtain ⟨u, rfl⟩ := Int.eq_ofNat_of_zero_le (show 0 ≤ n by omega)
    rcases hm with hm | hm | hm | hm
    · exact law_p0 u (by omega) f hf0 hf1 hm w hT hg
    · exact law_p1 u (by omega) f hf0 hf1 hm w hT hg
    · exact law_p2 u (by omega) f hf0 hf1 hm w hT hg
    · exact law_p3 u (by omega) f hf0 hf1 hm w hT hg
end Go.Proofs.YtpdfamigmkeflaaDoor.Ri
