/- impl.Resolve at a number's text (with its deferred recover), and FnResolveInts: walked. -/
import Derived.Test.YtpdfamigmkeflaaDoorRiC
import Derived.Test.YtpdfamigmkeflaaDoorRiE
import Derived.Test.YtpdfamigmkeflaaDoorRiH
namespace Go.Proofs.YtpdfamigmkeflaaDoor.Ri
open Go.RowKit
set_option linter.unusedVariables false
set_option linter.unusedSimpArgs false
/-- The resolver's word on a text. -/
def Rz (l : List UInt8) (V : Int) : Prop := ∀ w, Calls Tryd.prog 16 #[.string ⟨#[]⟩, .string (S l)] w fun e w' => e = .returned (.tuple #[.string ⟨#[33, 33, 105, 110, 116]⟩, .iface 3 (.int .i64 V)]) ∧ Below w.heap.size w w'
theorem zz_any (l : List UInt8) (V : Int) (h : Rz l V) (w : World) : Calls Tryd.prog 9 #[.string ⟨#[]⟩, .string (S l)] w fun e w' => e = .returned (.tuple #[.string ⟨#[33, 33, 105, 110, 116]⟩, .iface 3 (.int .i64 V)]) ∧ Below w.heap.size w w' := by
  have H := Lib.hid (h w)
  clear h
  go_enter Tryd.func9, Tryd.ntmps9
  go_wp2_with fail
  refine H.out.mono ?_
  rintro e w1 ⟨rfl, hb⟩
  go_wp2_with fail
  go_ret2
  exact ⟨rfl, hb⟩
theorem ta4 (V : Int) (w : World) : (Instr.typeAssert (.iface 3 (.int .i64 V)) 20 4 true).run Tryd.prog w = .ok (.tuple #[.bool false, .bool false]) w := by kernel_rfl
theorem ta3 (V : Int) (w : World) : (Instr.typeAssert (.iface 3 (.int .i64 V)) 20 3 true).run Tryd.prog w = .ok (.tuple #[.int .i64 V, .bool true]) w := by kernel_rfl
set_option maxHeartbeats 2000000 in
set_option maxRecDepth 100000 in
theorem scalar_any (V : Int) (w : World) : Calls Tryd.prog 10 #[.iface 3 (.int .i64 V)] w fun e w' => e = .returned (.agg #[.int .i64 2, .bool false, .int .i64 V, .int .u64 0, .float .f64 0, .string ⟨#[]⟩]) ∧ Below w.heap.size w w' := by
  have h4 := ta4 V
  have h3 := ta3 V
  have hsf : ∀ (a : Addr) (m : Mode) (w : World) (x : Nat), (store a (.float .f64 x) m).run Tryd.prog w = stored Tryd.prog w a (.float .f64 x) m := fun a m w x => run_store _ w a _ m rfl
  go_enter Tryd.func10, Tryd.ntmps10
  go_wp2_with fail
  obtain ⟨w1, HW⟩ : ∃ w1 : World, Hid (w.alloc (Obj.cells #[.int .i64 2, .bool false, .int .i64 V, .int .u64 0, .float .f64 0, .string ⟨#[]⟩] 26) = w1) := ⟨_, rfl⟩
  have hk : Bk w1 w.heap.size 26 [.int .i64 2, .bool false, .int .i64 V, .int .u64 0, .float .f64 0, .string ⟨#[]⟩] := by rw [← HW.out]; exact Bk.new w _ 26
  have hb : Below w.heap.size w w1 := by rw [← HW.out]; exact (Below.refl _ _).alloc (Nat.le_refl _) _
  rw [HW.out]
  obtain ⟨q0, _⟩ := at_ hk 0 rfl
  obtain ⟨q1, _⟩ := at_ hk 1 rfl
  obtain ⟨q2, _⟩ := at_ hk 2 rfl
  obtain ⟨q3, _⟩ := at_ hk 3 rfl
  obtain ⟨q4, _⟩ := at_ hk 4 rfl
  obtain ⟨q5, _⟩ := at_ hk 5 rfl
  refine bodyPost_ret (v := .agg #[.int .i64 2, .bool false, .int .i64 V, .int .u64 0, .float .f64 0, .string ⟨#[]⟩]) (by simp [results, Tryd.results10, q0, q1, q2, q3, q4, q5, go_sem]) rfl ?_
  exact ⟨rfl, hb⟩
theorem catch_idle (a b c : Addr) (w : World) : CallsD Tryd.prog 7 #[.pointer (some a), .pointer (some b), .pointer (some c)] .returning w fun e u' w' => e = .returned (.tuple #[]) ∧ u' = .returning ∧ w' = w := by
  refine callsD_of_wpS Tryd.func7 rfl fun c₀ cs hu => ?_
  apply wpS_seq
  apply wpS_region
  simp [wpOpsS, go_sem, recoverD, hu, Tryd.ntmps7, Exit.thenS]
  apply wpS_seq
  apply wpS_region
  simp [wpOpsS, go_sem, Exit.thenS]
  refine wpS_cond (t := false) (by simp [Act.eval]) ?_
  simp only [Bool.false_eq_true, if_false]
  refine wpS_of_wp (wp_skip ?_)
  cases c₀
  simp_all [bodyPostS, results, Tryd.results7]
end Go.Proofs.YtpdfamigmkeflaaDoor.Ri
