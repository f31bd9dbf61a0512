/- The node of a text (impl.StringNode): the walk. -/
import Derived.Test.YtdkhpngcomagnaaDoorSnE
namespace Go.Proofs.YtdkhpngcomagnaaDoor.Sn
open Go.RowKit
set_option linter.unusedVariables false
set_option linter.unusedSimpArgs false
def strTag : ByteArray := ⟨#[33, 33, 115, 116, 114]⟩
set_option maxHeartbeats 4000000 in
set_option maxRecDepth 100000 in
theorem snode_any (s : ByteArray) (x : Int) (w : World) (hs : s.size ≤ 1200) (hv : Lib.validD s.data.toList = true) (hx : (if fed s s.size then 8 else 0) = x) (hT : ∀ w', Below w.heap.size w w' → Tabs w') :
    Calls Tryd.prog 5 #[.string s] w fun e w' => e = .returned (.agg (out x ⟨#[33, 33, 115, 116, 114]⟩ s).toArray) ∧ Below w.heap.size w w' := by
  have HT := Lib.hid hT
  have HV := Lib.hid hv
  have HX := Lib.hid hx
  clear hT hv hx
  go_enter Tryd.func5, Tryd.ntmps5
  go_wp2_with fail
  obtain ⟨wa, HWA⟩ : ∃ wa : World, Hid ((w.alloc (.cells out0.toArray 25)).alloc (.cells (nod 0 0 ⟨#[]⟩ ⟨#[]⟩).toArray 35) = wa) := ⟨_, rfl⟩
  obtain ⟨b, HBN⟩ : ∃ b : Nat, Hid (w.heap.size + 1 = b) := ⟨_, rfl⟩
  have hbs : w.heap.size + 1 = b := HBN.out
  have hba : Below w.heap.size w wa := by rw [← HWA.out]; exact ((Below.refl _ _).alloc (Nat.le_refl _) _).alloc (by simp) _
  have hra : Bk wa w.heap.size 25 out0 := by rw [← HWA.out]; exact (Bk.new w out0 25).alloc _
  have hnb : Bk wa b 35 (nod 0 0 ⟨#[]⟩ ⟨#[]⟩) := by
    have := Bk.new (w.alloc (.cells out0.toArray 25)) (nod 0 0 ⟨#[]⟩ ⟨#[]⟩) 35
    simp only [World.size_alloc] at this
    rw [← HWA.out, ← HBN.out]
    exact this
  rw [show ((w.alloc (.cells #[.int .i64 0, .int .i64 0, .string ⟨#[]⟩, .string ⟨#[]⟩, .string ⟨#[]⟩, .string ⟨#[]⟩, .string ⟨#[]⟩, .string ⟨#[]⟩, .int .i64 0, .int .i64 0, .int .i64 0, .slice none 0 0] 25)).alloc (.cells #[.int .u32 0, .int .u32 0, .string ⟨#[]⟩, .string ⟨#[]⟩, .string ⟨#[]⟩, .pointer none, .slice none 0 0, .string ⟨#[]⟩, .string ⟨#[]⟩, .string ⟨#[]⟩, .int .i64 0, .int .i64 0] 35)) = wa from HWA.out, HBN.out]
  have hkt : ∀ w', Kp [b] wa w' → Tabs w' := fun w' hk => HT.out w' (hba.trans (hk.below hba.size (by simp; omega)))
  refine (set_any s b wa hs HV.out (HT.out wa hba) hnb hkt).mono ?_
  rintro e w2 ⟨rfl, hb2, hk2⟩
  rw [HX.out] at hb2
  have hx8 : IntKind.i64.wrap x = x := by
    have := HX.out
    by_cases hh : fed s s.size = true
    · rw [if_pos hh] at this; rw [← this]; decide
    · rw [if_neg hh] at this; rw [← this]; decide
  have hr2 : Bk w2 w.heap.size 25 out0 := hra.kp hk2 (by simp; omega)
  have hbel2 : Below w.heap.size w w2 := hba.trans (hk2.below hba.size (by simp; omega))
  have HB2 := Lib.hid hb2
  have HR2 := Lib.hid hr2
  have HBEL := Lib.hid hbel2
  clear hba hra hnb hkt hb2 hk2 hr2 hbel2 hbs HBN
  go_wp2_with fail
  refine (node_any b x ⟨#[33, 33, 115, 116, 114]⟩ s w2 HB2.out hx8).mono ?_
  rintro e w3 ⟨rfl, hb3⟩
  have hr3 := HR2.out.kp (Kp.of_below (ps := []) hb3) (by simp)
  have HBF := Lib.hid (HBEL.out.trans (hb3.mono HBEL.out.size))
  obtain ⟨q0, k0⟩ := at_ hr3 0 rfl
  obtain ⟨q1, k1⟩ := at_ hr3 1 rfl
  obtain ⟨q2, k2⟩ := at_ hr3 2 rfl
  obtain ⟨q3, k3⟩ := at_ hr3 3 rfl
  obtain ⟨q4, k4⟩ := at_ hr3 4 rfl
  obtain ⟨q5, k5⟩ := at_ hr3 5 rfl
  obtain ⟨q6, k6⟩ := at_ hr3 6 rfl
  obtain ⟨q7, k7⟩ := at_ hr3 7 rfl
  obtain ⟨q8, k8⟩ := at_ hr3 8 rfl
  obtain ⟨q9, k9⟩ := at_ hr3 9 rfl
  obtain ⟨q10, k10⟩ := at_ hr3 10 rfl
  obtain ⟨q11, k11⟩ := at_ hr3 11 rfl
  have HR4 := Lib.hid hr3
  clear hr3 hb3
  unfold out
  go_wp2_with fail
  clear q0 k0 q1 k1 q2 k2 q3 k3 q4 k4 q5 k5 q6 k6 q7 k7 q8 k8 q9 k9 q10 k10 q11 k11
  have h9 := ((((((((((((HR4.out.set 0 (.int .i64 8)).set 1 (.int .i64 x)).set 2 (.string ⟨#[33, 33, 115, 116, 114]⟩)).set 3 (.string s)).set 4 (.string ⟨#[]⟩)).set 5 (.string ⟨#[]⟩)).set 6 (.string ⟨#[]⟩)).set 7 (.string ⟨#[]⟩)).set 8 (.int .i64 0)).set 9 (.int .i64 0)).set 10 (.int .i64 (-1))).set 11 (.slice none 0 0))
  have hbf := ((((((((((((HBF.out.setCell (p := ⟨w.heap.size, 0, none⟩) (by simp) (.int .i64 8)).setCell (p := ⟨w.heap.size, 1, none⟩) (by simp) (.int .i64 x)).setCell (p := ⟨w.heap.size, 2, none⟩) (by simp) (.string ⟨#[33, 33, 115, 116, 114]⟩)).setCell (p := ⟨w.heap.size, 3, none⟩) (by simp) (.string s)).setCell (p := ⟨w.heap.size, 4, none⟩) (by simp) (.string ⟨#[]⟩)).setCell (p := ⟨w.heap.size, 5, none⟩) (by simp) (.string ⟨#[]⟩)).setCell (p := ⟨w.heap.size, 6, none⟩) (by simp) (.string ⟨#[]⟩)).setCell (p := ⟨w.heap.size, 7, none⟩) (by simp) (.string ⟨#[]⟩)).setCell (p := ⟨w.heap.size, 8, none⟩) (by simp) (.int .i64 0)).setCell (p := ⟨w.heap.size, 9, none⟩) (by simp) (.int .i64 0)).setCell (p := ⟨w.heap.size, 10, none⟩) (by simp) (.int .i64 (-1))).setCell (p := ⟨w.heap.size, 11, none⟩) (by simp) (.slice none 0 0))
  have r0 := (at_ h9 0 rfl).1
  have r1 := (at_ h9 1 rfl).1
  have r2 := (at_ h9 2 rfl).1
  have r3 := (at_ h9 3 rfl).1
  have r4 := (at_ h9 4 rfl).1
  have r5 := (at_ h9 5 rfl).1
  have r6 := (at_ h9 6 rfl).1
  have r7 := (at_ h9 7 rfl).1
  have r8 := (at_ h9 8 rfl).1
  have r9 := (at_ h9 9 rfl).1
  have r10 := (at_ h9 10 rfl).1
  have r11 := (at_ h9 11 rfl).1
  (try simp only [Exit.inBlock, Exit.then])
  refine bodyPost_ret (by simp [results, Tryd.results5, r0, r1, r2, r3, r4, r5, r6, r7, r8, r9, r10, r11, go_sem]; try rfl) rfl ?_
  exact ⟨rfl, hbf⟩
end Go.Proofs.YtdkhpngcomagnaaDoor.Sn
