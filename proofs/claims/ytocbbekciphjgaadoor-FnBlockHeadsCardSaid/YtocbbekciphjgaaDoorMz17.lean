/- TkA: parts of the proof, one behind another. -/
import Derived.Test.YtocbbekciphjgaaDoorMz16
/- TkA -/
/- The parts of a token (ZzTokenParts, impl.style5): the walks. Printed by genTok.py. -/
namespace Go.Proofs.YtocbbekciphjgaaDoor.Sc
open Go.RowKit Go.Proofs.YtocbbekciphjgaaDoor.Rdp Go.Proofs.YtocbbekciphjgaaDoor.Pa
set_option linter.unusedVariables false
set_option linter.unusedSimpArgs false
/-- A token, in memory. -/
def tok (ty s0 s1 s2 e0 e1 e2 en : Int) (v1 v2 v3 : Value) (sy ma mi : Int) : List Value := [.int .i64 ty, .int .i64 s0, .int .i64 s1, .int .i64 s2, .int .i64 e0, .int .i64 e1, .int .i64 e2, .int .i64 en, v1, v2, v3, .int .i8 sy, .int .i8 ma, .int .i8 mi]
def five (a b c d e : Int) : List Value := [.int .i64 a, .int .i64 b, .int .i64 c, .int .i64 d, .int .i64 e]
def sty (x : Int) : Int := if x = 2 then 1 else if x = 4 then 2 else if x = 8 then 3 else if x = 16 then 4 else if x = 32 then 5 else 0
set_option maxHeartbeats 1000000 in
theorem style_any (x : Int) (w : World) : Calls Tryd.prog 107 #[.int .i64 x] w fun e w' => e = .returned (.int .i64 (sty x)) ∧ w' = w := by
  obtain ⟨b1, e1⟩ : ∃ b, (x == 2) = b := ⟨_, rfl⟩
  obtain ⟨b2, e2⟩ : ∃ b, (x == 4) = b := ⟨_, rfl⟩
  obtain ⟨b3, e3⟩ : ∃ b, (x == 8) = b := ⟨_, rfl⟩
  obtain ⟨b4, e4⟩ : ∃ b, (x == 16) = b := ⟨_, rfl⟩
  obtain ⟨b5, e5⟩ : ∃ b, (x == 32) = b := ⟨_, rfl⟩
  have hr : sty x = (bif b1 then 1 else bif b2 then 2 else bif b3 then 3 else bif b4 then 4 else bif b5 then 5 else 0) := by
    unfold sty
    rw [← e1, ← e2, ← e3, ← e4, ← e5]
    simp only [cond_eq_ite, beq_iff_eq]
  rw [hr]
  clear hr
  cases b1
  · cases b2
    · cases b3
      · cases b4
        · cases b5
          · go_enter Tryd.func107, Tryd.ntmps107
            go_wp2_with fail
            go_ret
            exact ⟨rfl, rfl⟩
          · go_enter Tryd.func107, Tryd.ntmps107
            go_wp2_with fail
            go_ret
            exact ⟨rfl, rfl⟩
        · go_enter Tryd.func107, Tryd.ntmps107
          go_wp2_with fail
          go_ret
          exact ⟨rfl, rfl⟩
      · go_enter Tryd.func107, Tryd.ntmps107
        go_wp2_with fail
        go_ret
        exact ⟨rfl, rfl⟩
    · go_enter Tryd.func107, Tryd.ntmps107
      go_wp2_with fail
      go_ret
      exact ⟨rfl, rfl⟩
  · go_enter Tryd.func107, Tryd.ntmps107
    go_wp2_with fail
    go_ret
    exact ⟨rfl, rfl⟩
def Sg (t : Nat) (w0 : World) (ty s0 s1 s2 e0 e1 e2 en : Int) (v1 v2 v3 : Value) (sy ma mi : Int) : Nat → Value → World → Prop
  | 0, v, _ => v = .pointer (some ⟨t, 0, none⟩)
  | 1, v, _ => v = .pointer (some ⟨t, 0, none⟩)
  | 2, v, _ => v = .pointer (some ⟨t, 0, none⟩)
  | 3, v, _ => v = .int .i64 ty
  | 4, v, _ => v = .pointer (some ⟨t, 0, none⟩)
  | 5, v, _ => v = .pointer (some ⟨t, 0, none⟩)
  | 6, v, _ => v = .pointer (some ⟨t, 11, none⟩)
  | 7, v, _ => v = .int .i8 sy
  | 8, v, _ => v = .int .i64 sy
  | 9, v, _ => v = .pointer (some ⟨t, 0, none⟩)
  | 10, v, _ => v = .pointer (some ⟨t, 0, none⟩)
  | 11, v, _ => v = .pointer (some ⟨t, 7, none⟩)
  | 12, v, _ => v = .int .i64 en
  | 13, v, _ => v = .pointer (some ⟨t, 0, none⟩)
  | 14, v, _ => v = .pointer (some ⟨t, 0, none⟩)
  | 15, v, _ => v = .pointer (some ⟨t, 12, none⟩)
  | 16, v, _ => v = .int .i8 ma
  | 17, v, _ => v = .int .i64 ma
  | 18, v, _ => v = .pointer (some ⟨t, 0, none⟩)
  | 19, v, _ => v = .pointer (some ⟨t, 0, none⟩)
  | 20, v, _ => v = .pointer (some ⟨t, 13, none⟩)
  | 21, v, _ => v = .int .i8 mi
  | 22, v, _ => v = .int .i64 mi
  | 23, v, _ => v = .agg #[.int .i64 ty, .int .i64 sy, .int .i64 en, .int .i64 ma, .int .i64 mi]
  | 24, v, _ => v = .pointer (some ⟨t, 0, none⟩)
  | 25, v, _ => v = .pointer (some ⟨t, 0, none⟩)
  | 26, v, _ => v = .pointer (some ⟨t, 1, none⟩)
  | 27, v, _ => v = .agg #[.int .i64 s0, .int .i64 s1, .int .i64 s2]
  | 28, v, _ => v = .agg #[.int .i64 s0, .int .i64 s1, .int .i64 s2]
  | 29, v, _ => v = .pointer (some ⟨t, 0, none⟩)
  | 30, v, _ => v = .pointer (some ⟨t, 0, none⟩)
  | 31, v, _ => v = .pointer (some ⟨t, 4, none⟩)
  | 32, v, _ => v = .agg #[.int .i64 e0, .int .i64 e1, .int .i64 e2]
  | 33, v, _ => v = .agg #[.int .i64 e0, .int .i64 e1, .int .i64 e2]
  | 34, v, _ => v = .pointer (some ⟨t, 0, none⟩)
  | 35, v, _ => v = .pointer (some ⟨t, 0, none⟩)
  | 36, v, _ => v = .pointer (some ⟨t, 8, none⟩)
  | 37, v, _ => v = v1
  | 38, v, _ => v = .pointer (some ⟨t, 0, none⟩)
  | 39, v, _ => v = .pointer (some ⟨t, 0, none⟩)
  | 40, v, _ => v = .pointer (some ⟨t, 9, none⟩)
  | 41, v, _ => v = v2
  | 42, v, _ => v = .pointer (some ⟨t, 0, none⟩)
  | 43, v, _ => v = .pointer (some ⟨t, 0, none⟩)
  | 44, v, _ => v = .pointer (some ⟨t, 10, none⟩)
  | 45, v, _ => v = v3
  | 46, v, _ => v = .agg #[v1, v2, v3]
  | 47, v, w => Bk w (w0.heap.size) 151 (five ty sy en ma mi)
  | 48, v, w => Bk w (w0.heap.size + 1) 70 (tri s0 s1 s2)
  | 49, v, w => Bk w (w0.heap.size + 2) 70 (tri e0 e1 e2)
  | 50, v, w => Bk w (w0.heap.size + 3) 152 ([v1, v2, v3])
  | _, _, _ => True
theorem Sg_mono (t : Nat) (w0 : World) (ty s0 s1 s2 e0 e1 e2 en : Int) (v1 v2 v3 : Value) (sy ma mi : Int) (i : Nat) (v : Value) (w w' : World) (hR : MidR [(w0.heap.size, 151, five ty sy en ma mi), (w0.heap.size + 1, 70, tri s0 s1 s2), (w0.heap.size + 2, 70, tri e0 e1 e2), (w0.heap.size + 3, 152, [v1, v2, v3])] w w') (h : Sg t w0 ty s0 s1 s2 e0 e1 e2 en v1 v2 v3 sy ma mi i v w) : Sg t w0 ty s0 s1 s2 e0 e1 e2 en v1 v2 v3 sy ma mi i v w' := by
  unfold Sg at h ⊢
  split at h <;> first | exact h | exact hR (w0.heap.size, 151, five ty sy en ma mi) (by simp) h | exact hR (w0.heap.size + 1, 70, tri s0 s1 s2) (by simp) h | exact hR (w0.heap.size + 2, 70, tri e0 e1 e2) (by simp) h | exact hR (w0.heap.size + 3, 152, [v1, v2, v3]) (by simp) h
set_option maxHeartbeats 4000000 in
set_option maxRecDepth 100000 in
theorem zparts_any (t : Nat) (ty s0 s1 s2 e0 e1 e2 en : Int) (v1 v2 v3 : Value) (sy ma mi : Int) (w0 : World) (h : Bk w0 t 78 (tok ty s0 s1 s2 e0 e1 e2 en v1 v2 v3 sy ma mi)) (h1 : ∃ a l k, v1 = .slice a l k) (h2 : ∃ a l k, v2 = .slice a l k) (h3 : ∃ a l k, v3 = .slice a l k) (hsy : IntKind.i64.wrap sy = sy) (hma : IntKind.i64.wrap ma = ma) (hmi : IntKind.i64.wrap mi = mi) :
    Calls Tryd.prog 106 #[.pointer (some ⟨t, 0, none⟩)] w0 fun e w' => e = .returned (.tuple #[.agg #[.int .i64 ty, .int .i64 sy, .int .i64 en, .int .i64 ma, .int .i64 mi], .agg #[.int .i64 s0, .int .i64 s1, .int .i64 s2], .agg #[.int .i64 e0, .int .i64 e1, .int .i64 e2], .agg #[v1, v2, v3]]) ∧ Below w0.heap.size w0 w' := by
  have hlt := h.lt
  have o1 : v1.oneCell' = true := by obtain ⟨_, _, _, rfl⟩ := h1; rfl
  have o2 : v2.oneCell' = true := by obtain ⟨_, _, _, rfl⟩ := h2; rfl
  have o3 : v3.oneCell' = true := by obtain ⟨_, _, _, rfl⟩ := h3; rfl
  have n2 : Bk (w0.alloc (.cells (five 0 0 0 0 0).toArray 151)) w0.heap.size 151 (five 0 0 0 0 0) := Bk.new w0 _ 151
  obtain ⟨wa, HWA⟩ : ∃ wa : World, Hid ((((w0.alloc (.cells #[.int .i64 0, .int .i64 0, .int .i64 0, .int .i64 0, .int .i64 0] 151)).alloc (.cells #[.int .i64 0, .int .i64 0, .int .i64 0] 70)).alloc (.cells #[.int .i64 0, .int .i64 0, .int .i64 0] 70)).alloc (.cells #[.slice none 0 0, .slice none 0 0, .slice none 0 0] 152) = wa) := ⟨_, rfl⟩
  have hm : Mid [(t, 78, tok ty s0 s1 s2 e0 e1 e2 en v1 v2 v3 sy ma mi)] [(w0.heap.size, 151, five ty sy en ma mi), (w0.heap.size + 1, 70, tri s0 s1 s2), (w0.heap.size + 2, 70, tri e0 e1 e2), (w0.heap.size + 3, 152, [v1, v2, v3])] w0.heap.size w0 wa := by
    have g1 := Bk.new w0 (five 0 0 0 0 0) 151
    have g2 := Bk.new (w0.alloc (.cells (five 0 0 0 0 0).toArray 151)) (tri 0 0 0) 70
    have g3 := Bk.new ((w0.alloc (.cells (five 0 0 0 0 0).toArray 151)).alloc (.cells (tri 0 0 0).toArray 70)) (tri 0 0 0) 70
    have g4 := Bk.new (((w0.alloc (.cells (five 0 0 0 0 0).toArray 151)).alloc (.cells (tri 0 0 0).toArray 70)).alloc (.cells (tri 0 0 0).toArray 70)) [.slice none 0 0, .slice none 0 0, .slice none 0 0] 152
    simp only [World.size_alloc] at g2 g3 g4
    rw [← HWA.out]
    refine ⟨?_, ?_, ((((Below.refl _ _).alloc (Nat.le_refl _) _).alloc (by simp) _).alloc (by simp; omega) _).alloc (by simp; omega) _, Nat.le_refl _, by simp, by simp; omega, by simp⟩
    · simp only [List.mem_singleton, forall_eq]
      exact (((h.alloc _).alloc _).alloc _).alloc _
    · simp only [List.mem_cons, List.not_mem_nil, or_false, forall_eq_or_imp, forall_eq]
      exact ⟨⟨_, ((g1.alloc _).alloc _).alloc _, rfl⟩, ⟨_, (g2.alloc _).alloc _, rfl⟩, ⟨_, g3.alloc _, rfl⟩, ⟨_, g4, rfl⟩⟩
  have HM := Lib.hid hm
  clear hm h n2
  go_enter Tryd.func106, Tryd.ntmps106
  go_upto_region 1 with fail
  rw [HWA.out]
  refine Sp.region_specs (by kernel_rfl) _ (by kernel_rfl) (by kernel_rfl) (by kernel_rfl) rfl (by kernel_rfl) (Sg t w0 ty s0 s1 s2 e0 e1 e2 en v1 v2 v3 sy ma mi) (Mid [(t, 78, tok ty s0 s1 s2 e0 e1 e2 en v1 v2 v3 sy ma mi)] [(w0.heap.size, 151, five ty sy en ma mi), (w0.heap.size + 1, 70, tri s0 s1 s2), (w0.heap.size + 2, 70, tri e0 e1 e2), (w0.heap.size + 3, 152, [v1, v2, v3])] w0.heap.size w0) (MidR [(w0.heap.size, 151, five ty sy en ma mi), (w0.heap.size + 1, 70, tri s0 s1 s2), (w0.heap.size + 2, 70, tri e0 e1 e2), (w0.heap.size + 3, 152, [v1, v2, v3])]) (HM.out.below ⟨rfl, rfl, rfl, Nat.le_refl _, fun _ _ => rfl⟩) (fun i v w w' hR => Sg_mono t w0 ty s0 s1 s2 e0 e1 e2 en v1 v2 v3 sy ma mi i v w w' hR) ?_ ?_
  · skip
    intro i hi a w1 F hI
    have hcases : i = 0 ∨ i = 1 ∨ i = 2 ∨ i = 3 ∨ i = 4 ∨ i = 5 ∨ i = 6 ∨ i = 7 ∨ i = 8 ∨ i = 9 ∨ i = 10 ∨ i = 11 ∨ i = 12 ∨ i = 13 ∨ i = 14 ∨ i = 15 ∨ i = 16 ∨ i = 17 ∨ i = 18 ∨ i = 19 ∨ i = 20 ∨ i = 21 ∨ i = 22 ∨ i = 23 ∨ i = 24 ∨ i = 25 ∨ i = 26 ∨ i = 27 ∨ i = 28 ∨ i = 29 ∨ i = 30 ∨ i = 31 ∨ i = 32 ∨ i = 33 ∨ i = 34 ∨ i = 35 ∨ i = 36 ∨ i = 37 ∨ i = 38 ∨ i = 39 ∨ i = 40 ∨ i = 41 ∨ i = 42 ∨ i = 43 ∨ i = 44 ∨ i = 45 ∨ i = 46 ∨ i = 47 ∨ i = 48 ∨ i = 49 ∨ i = 50 := by have hi' : i < 51 := hi; omega
    rcases hcases with rfl | rfl | rfl | rfl | rfl | rfl | rfl | rfl | rfl | rfl | rfl | rfl | rfl | rfl | rfl | rfl | rfl | rfl | rfl | rfl | rfl | rfl | rfl | rfl | rfl | rfl | rfl | rfl | rfl | rfl | rfl | rfl | rfl | rfl | rfl | rfl | rfl | rfl | rfl | rfl | rfl | rfl | rfl | rfl | rfl | rfl | rfl | rfl | rfl | rfl | rfl
    · have d0 : a.tmps.getD 0 undef = .pointer (some ⟨t, 0, none⟩) := F.out 0 (by kernel_rfl)
      exact Sp.sp_value rfl (Sp.wanted_none rfl) (v := .pointer (some ⟨t, 0, none⟩)) (w' := w1) (by simp [execOp, Act.eval, d0, Sp.gd d0, go_sem]) hI (.refl _ _) rfl
    · have d6 : a.tmps.getD 6 undef = .pointer (some ⟨t, 0, none⟩) := F.val 0 6 (by kernel_rfl) (by rfl)
      exact Sp.sp_value rfl (Sp.wanted_none rfl) (v := .pointer (some ⟨t, 0, none⟩)) (w' := w1) (by simp [execOp, Act.eval, d6, Sp.gd d6, go_sem]) hI (.refl _ _) rfl
    · have d7 : a.tmps.getD 7 undef = .pointer (some ⟨t, 0, none⟩) := F.val 1 7 (by kernel_rfl) (by rfl)
      exact Sp.sp_value rfl (Sp.wanted_none rfl) (v := .pointer (some ⟨t, 0, none⟩)) (w' := w1) (by simp [execOp, Act.eval, d7, Sp.gd d7, go_sem]) hI (.refl _ _) rfl
    · have d8 : a.tmps.getD 8 undef = .pointer (some ⟨t, 0, none⟩) := F.val 2 8 (by kernel_rfl) (by rfl)
      exact Sp.sp_value rfl (Sp.wanted_none rfl) (v := .int .i64 ty) (w' := w1) (by simp [execOp, Act.eval, d8, Sp.gd d8, hI.cell (t, 78, tok ty s0 s1 s2 e0 e1 e2 en v1 v2 v3 sy ma mi) (by simp) 0 rfl, go_sem]) hI (.refl _ _) rfl
    · have d0 : a.tmps.getD 0 undef = .pointer (some ⟨t, 0, none⟩) := F.out 0 (by kernel_rfl)
      exact Sp.sp_value rfl (Sp.wanted_none rfl) (v := .pointer (some ⟨t, 0, none⟩)) (w' := w1) (by simp [execOp, Act.eval, d0, Sp.gd d0, go_sem]) hI (.refl _ _) rfl
    · have d10 : a.tmps.getD 10 undef = .pointer (some ⟨t, 0, none⟩) := F.val 4 10 (by kernel_rfl) (by rfl)
      exact Sp.sp_value rfl (Sp.wanted_none rfl) (v := .pointer (some ⟨t, 0, none⟩)) (w' := w1) (by simp [execOp, Act.eval, d10, Sp.gd d10, go_sem]) hI (.refl _ _) rfl
    · have d11 : a.tmps.getD 11 undef = .pointer (some ⟨t, 0, none⟩) := F.val 5 11 (by kernel_rfl) (by rfl)
      exact Sp.sp_value rfl (Sp.wanted_none rfl) (v := .pointer (some ⟨t, 11, none⟩)) (w' := w1) (by simp [execOp, Act.eval, d11, Sp.gd d11, go_sem]) hI (.refl _ _) rfl
    · have d12 : a.tmps.getD 12 undef = .pointer (some ⟨t, 11, none⟩) := F.val 6 12 (by kernel_rfl) (by rfl)
      exact Sp.sp_value rfl (Sp.wanted_none rfl) (v := .int .i8 sy) (w' := w1) (by simp [execOp, Act.eval, d12, Sp.gd d12, hI.cell (t, 78, tok ty s0 s1 s2 e0 e1 e2 en v1 v2 v3 sy ma mi) (by simp) 11 rfl, go_sem]) hI (.refl _ _) rfl
    · have d13 : a.tmps.getD 13 undef = .int .i8 sy := F.val 7 13 (by kernel_rfl) (by rfl)
      exact Sp.sp_value rfl (Sp.wanted_none rfl) (v := .int .i64 sy) (w' := w1) (by simp [execOp, Act.eval, d13, Sp.gd d13, hsy, go_sem]) hI (.refl _ _) rfl
    · have d0 : a.tmps.getD 0 undef = .pointer (some ⟨t, 0, none⟩) := F.out 0 (by kernel_rfl)
      exact Sp.sp_value rfl (Sp.wanted_none rfl) (v := .pointer (some ⟨t, 0, none⟩)) (w' := w1) (by simp [execOp, Act.eval, d0, Sp.gd d0, go_sem]) hI (.refl _ _) rfl
    · have d15 : a.tmps.getD 15 undef = .pointer (some ⟨t, 0, none⟩) := F.val 9 15 (by kernel_rfl) (by rfl)
      exact Sp.sp_value rfl (Sp.wanted_none rfl) (v := .pointer (some ⟨t, 0, none⟩)) (w' := w1) (by simp [execOp, Act.eval, d15, Sp.gd d15, go_sem]) hI (.refl _ _) rfl
    · have d16 : a.tmps.getD 16 undef = .pointer (some ⟨t, 0, none⟩) := F.val 10 16 (by kernel_rfl) (by rfl)
      exact Sp.sp_value rfl (Sp.wanted_none rfl) (v := .pointer (some ⟨t, 7, none⟩)) (w' := w1) (by simp [execOp, Act.eval, d16, Sp.gd d16, go_sem]) hI (.refl _ _) rfl
    · have d17 : a.tmps.getD 17 undef = .pointer (some ⟨t, 7, none⟩) := F.val 11 17 (by kernel_rfl) (by rfl)
      exact Sp.sp_value rfl (Sp.wanted_none rfl) (v := .int .i64 en) (w' := w1) (by simp [execOp, Act.eval, d17, Sp.gd d17, hI.cell (t, 78, tok ty s0 s1 s2 e0 e1 e2 en v1 v2 v3 sy ma mi) (by simp) 7 rfl, go_sem]) hI (.refl _ _) rfl
    · have d0 : a.tmps.getD 0 undef = .pointer (some ⟨t, 0, none⟩) := F.out 0 (by kernel_rfl)
      exact Sp.sp_value rfl (Sp.wanted_none rfl) (v := .pointer (some ⟨t, 0, none⟩)) (w' := w1) (by simp [execOp, Act.eval, d0, Sp.gd d0, go_sem]) hI (.refl _ _) rfl
    · have d19 : a.tmps.getD 19 undef = .pointer (some ⟨t, 0, none⟩) := F.val 13 19 (by kernel_rfl) (by rfl)
      exact Sp.sp_value rfl (Sp.wanted_none rfl) (v := .pointer (some ⟨t, 0, none⟩)) (w' := w1) (by simp [execOp, Act.eval, d19, Sp.gd d19, go_sem]) hI (.refl _ _) rfl
    · have d20 : a.tmps.getD 20 undef = .pointer (some ⟨t, 0, none⟩) := F.val 14 20 (by kernel_rfl) (by rfl)
      exact Sp.sp_value rfl (Sp.wanted_none rfl) (v := .pointer (some ⟨t, 12, none⟩)) (w' := w1) (by simp [execOp, Act.eval, d20, Sp.gd d20, go_sem]) hI (.refl _ _) rfl
    · have d21 : a.tmps.getD 21 undef = .pointer (some ⟨t, 12, none⟩) := F.val 15 21 (by kernel_rfl) (by rfl)
      exact Sp.sp_value rfl (Sp.wanted_none rfl) (v := .int .i8 ma) (w' := w1) (by simp [execOp, Act.eval, d21, Sp.gd d21, hI.cell (t, 78, tok ty s0 s1 s2 e0 e1 e2 en v1 v2 v3 sy ma mi) (by simp) 12 rfl, go_sem]) hI (.refl _ _) rfl
    · have d22 : a.tmps.getD 22 undef = .int .i8 ma := F.val 16 22 (by kernel_rfl) (by rfl)
      exact Sp.sp_value rfl (Sp.wanted_none rfl) (v := .int .i64 ma) (w' := w1) (by simp [execOp, Act.eval, d22, Sp.gd d22, hma, go_sem]) hI (.refl _ _) rfl
    · have d0 : a.tmps.getD 0 undef = .pointer (some ⟨t, 0, none⟩) := F.out 0 (by kernel_rfl)
      exact Sp.sp_value rfl (Sp.wanted_none rfl) (v := .pointer (some ⟨t, 0, none⟩)) (w' := w1) (by simp [execOp, Act.eval, d0, Sp.gd d0, go_sem]) hI (.refl _ _) rfl
    · have d24 : a.tmps.getD 24 undef = .pointer (some ⟨t, 0, none⟩) := F.val 18 24 (by kernel_rfl) (by rfl)
      exact Sp.sp_value rfl (Sp.wanted_none rfl) (v := .pointer (some ⟨t, 0, none⟩)) (w' := w1) (by simp [execOp, Act.eval, d24, Sp.gd d24, go_sem]) hI (.refl _ _) rfl
    · have d25 : a.tmps.getD 25 undef = .pointer (some ⟨t, 0, none⟩) := F.val 19 25 (by kernel_rfl) (by rfl)
      exact Sp.sp_value rfl (Sp.wanted_none rfl) (v := .pointer (some ⟨t, 13, none⟩)) (w' := w1) (by simp [execOp, Act.eval, d25, Sp.gd d25, go_sem]) hI (.refl _ _) rfl
    · have d26 : a.tmps.getD 26 undef = .pointer (some ⟨t, 13, none⟩) := F.val 20 26 (by kernel_rfl) (by rfl)
      exact Sp.sp_value rfl (Sp.wanted_none rfl) (v := .int .i8 mi) (w' := w1) (by simp [execOp, Act.eval, d26, Sp.gd d26, hI.cell (t, 78, tok ty s0 s1 s2 e0 e1 e2 en v1 v2 v3 sy ma mi) (by simp) 13 rfl, go_sem]) hI (.refl _ _) rfl
    · have d27 : a.tmps.getD 27 undef = .int .i8 mi := F.val 21 27 (by kernel_rfl) (by rfl)
      exact Sp.sp_value rfl (Sp.wanted_none rfl) (v := .int .i64 mi) (w' := w1) (by simp [execOp, Act.eval, d27, Sp.gd d27, hmi, go_sem]) hI (.refl _ _) rfl
    · have d9 : a.tmps.getD 9 undef = .int .i64 ty := F.val 3 9 (by kernel_rfl) (by rfl)
      have d14 : a.tmps.getD 14 undef = .int .i64 sy := F.val 8 14 (by kernel_rfl) (by rfl)
      have d18 : a.tmps.getD 18 undef = .int .i64 en := F.val 12 18 (by kernel_rfl) (by rfl)
      have d23 : a.tmps.getD 23 undef = .int .i64 ma := F.val 17 23 (by kernel_rfl) (by rfl)
      have d28 : a.tmps.getD 28 undef = .int .i64 mi := F.val 22 28 (by kernel_rfl) (by rfl)
      exact Sp.sp_value rfl (Sp.wanted_none rfl) (v := .agg #[.int .i64 ty, .int .i64 sy, .int .i64 en, .int .i64 ma, .int .i64 mi]) (w' := w1) (by simp [execOp, Act.eval, d9, Sp.gd d9, d14, Sp.gd d14, d18, Sp.gd d18, d23, Sp.gd d23, d28, Sp.gd d28, go_sem]) hI (.refl _ _) rfl
    · have d0 : a.tmps.getD 0 undef = .pointer (some ⟨t, 0, none⟩) := F.out 0 (by kernel_rfl)
      exact Sp.sp_value rfl (Sp.wanted_none rfl) (v := .pointer (some ⟨t, 0, none⟩)) (w' := w1) (by simp [execOp, Act.eval, d0, Sp.gd d0, go_sem]) hI (.refl _ _) rfl
    · have d30 : a.tmps.getD 30 undef = .pointer (some ⟨t, 0, none⟩) := F.val 24 30 (by kernel_rfl) (by rfl)
      exact Sp.sp_value rfl (Sp.wanted_none rfl) (v := .pointer (some ⟨t, 0, none⟩)) (w' := w1) (by simp [execOp, Act.eval, d30, Sp.gd d30, go_sem]) hI (.refl _ _) rfl
    · have d31 : a.tmps.getD 31 undef = .pointer (some ⟨t, 0, none⟩) := F.val 25 31 (by kernel_rfl) (by rfl)
      exact Sp.sp_value rfl (Sp.wanted_none rfl) (v := .pointer (some ⟨t, 1, none⟩)) (w' := w1) (by simp [execOp, Act.eval, d31, Sp.gd d31, go_sem]) hI (.refl _ _) rfl
    · have d32 : a.tmps.getD 32 undef = .pointer (some ⟨t, 1, none⟩) := F.val 26 32 (by kernel_rfl) (by rfl)
      exact Sp.sp_value rfl (Sp.wanted_none rfl) (v := .agg #[.int .i64 s0, .int .i64 s1, .int .i64 s2]) (w' := w1) (by simp [execOp, Act.eval, d32, Sp.gd d32, hI.cell (t, 78, tok ty s0 s1 s2 e0 e1 e2 en v1 v2 v3 sy ma mi) (by simp) 1 rfl, hI.cell (t, 78, tok ty s0 s1 s2 e0 e1 e2 en v1 v2 v3 sy ma mi) (by simp) 2 rfl, hI.cell (t, 78, tok ty s0 s1 s2 e0 e1 e2 en v1 v2 v3 sy ma mi) (by simp) 3 rfl, go_sem]) hI (.refl _ _) rfl
    · have d33 : a.tmps.getD 33 undef = .agg #[.int .i64 s0, .int .i64 s1, .int .i64 s2] := F.val 27 33 (by kernel_rfl) (by rfl)
      refine Sp.sp_call Tryd.func67 (by kernel_rfl) rfl #[.agg #[.int .i64 s0, .int .i64 s1, .int .i64 s2]] rfl (Sp.wanted_none rfl) rfl (by simp only [List.map_toArray, List.map_cons, List.map_nil, Act.eval, d33]) ?_
      refine (zmark_any _ _ _ _).mono ?_
      rintro e w3 ⟨rfl, hb3⟩
      exact ⟨_, rfl, hI.below hb3, .below hb3, rfl⟩
    · have d0 : a.tmps.getD 0 undef = .pointer (some ⟨t, 0, none⟩) := F.out 0 (by kernel_rfl)
      exact Sp.sp_value rfl (Sp.wanted_none rfl) (v := .pointer (some ⟨t, 0, none⟩)) (w' := w1) (by simp [execOp, Act.eval, d0, Sp.gd d0, go_sem]) hI (.refl _ _) rfl
    · have d35 : a.tmps.getD 35 undef = .pointer (some ⟨t, 0, none⟩) := F.val 29 35 (by kernel_rfl) (by rfl)
      exact Sp.sp_value rfl (Sp.wanted_none rfl) (v := .pointer (some ⟨t, 0, none⟩)) (w' := w1) (by simp [execOp, Act.eval, d35, Sp.gd d35, go_sem]) hI (.refl _ _) rfl
    · have d36 : a.tmps.getD 36 undef = .pointer (some ⟨t, 0, none⟩) := F.val 30 36 (by kernel_rfl) (by rfl)
      exact Sp.sp_value rfl (Sp.wanted_none rfl) (v := .pointer (some ⟨t, 4, none⟩)) (w' := w1) (by simp [execOp, Act.eval, d36, Sp.gd d36, go_sem]) hI (.refl _ _) rfl
    · have d37 : a.tmps.getD 37 undef = .pointer (some ⟨t, 4, none⟩) := F.val 31 37 (by kernel_rfl) (by rfl)
      exact Sp.sp_value rfl (Sp.wanted_none rfl) (v := .agg #[.int .i64 e0, .int .i64 e1, .int .i64 e2]) (w' := w1) (by simp [execOp, Act.eval, d37, Sp.gd d37, hI.cell (t, 78, tok ty s0 s1 s2 e0 e1 e2 en v1 v2 v3 sy ma mi) (by simp) 4 rfl, hI.cell (t, 78, tok ty s0 s1 s2 e0 e1 e2 en v1 v2 v3 sy ma mi) (by simp) 5 rfl, hI.cell (t, 78, tok ty s0 s1 s2 e0 e1 e2 en v1 v2 v3 sy ma mi) (by simp) 6 rfl, go_sem]) hI (.refl _ _) rfl
    · have d38 : a.tmps.getD 38 undef = .agg #[.int .i64 e0, .int .i64 e1, .int .i64 e2] := F.val 32 38 (by kernel_rfl) (by rfl)
      refine Sp.sp_call Tryd.func67 (by kernel_rfl) rfl #[.agg #[.int .i64 e0, .int .i64 e1, .int .i64 e2]] rfl (Sp.wanted_none rfl) rfl (by simp only [List.map_toArray, List.map_cons, List.map_nil, Act.eval, d38]) ?_
      refine (zmark_any _ _ _ _).mono ?_
      rintro e w3 ⟨rfl, hb3⟩
      exact ⟨_, rfl, hI.below hb3, .below hb3, rfl⟩
    · have d0 : a.tmps.getD 0 undef = .pointer (some ⟨t, 0, none⟩) := F.out 0 (by kernel_rfl)
      exact Sp.sp_value rfl (Sp.wanted_none rfl) (v := .pointer (some ⟨t, 0, none⟩)) (w' := w1) (by simp [execOp, Act.eval, d0, Sp.gd d0, go_sem]) hI (.refl _ _) rfl
    · have d40 : a.tmps.getD 40 undef = .pointer (some ⟨t, 0, none⟩) := F.val 34 40 (by kernel_rfl) (by rfl)
      exact Sp.sp_value rfl (Sp.wanted_none rfl) (v := .pointer (some ⟨t, 0, none⟩)) (w' := w1) (by simp [execOp, Act.eval, d40, Sp.gd d40, go_sem]) hI (.refl _ _) rfl
    · have d41 : a.tmps.getD 41 undef = .pointer (some ⟨t, 0, none⟩) := F.val 35 41 (by kernel_rfl) (by rfl)
      exact Sp.sp_value rfl (Sp.wanted_none rfl) (v := .pointer (some ⟨t, 8, none⟩)) (w' := w1) (by simp [execOp, Act.eval, d41, Sp.gd d41, go_sem]) hI (.refl _ _) rfl
    · have d42 : a.tmps.getD 42 undef = .pointer (some ⟨t, 8, none⟩) := F.val 36 42 (by kernel_rfl) (by rfl)
      exact Sp.sp_value rfl (Sp.wanted_none rfl) (v := v1) (w' := w1) (by simp [execOp, Act.eval, d42, Sp.gd d42, hI.cell (t, 78, tok ty s0 s1 s2 e0 e1 e2 en v1 v2 v3 sy ma mi) (by simp) 8 rfl, go_sem]) hI (.refl _ _) rfl
    · have d0 : a.tmps.getD 0 undef = .pointer (some ⟨t, 0, none⟩) := F.out 0 (by kernel_rfl)
      exact Sp.sp_value rfl (Sp.wanted_none rfl) (v := .pointer (some ⟨t, 0, none⟩)) (w' := w1) (by simp [execOp, Act.eval, d0, Sp.gd d0, go_sem]) hI (.refl _ _) rfl
    · have d44 : a.tmps.getD 44 undef = .pointer (some ⟨t, 0, none⟩) := F.val 38 44 (by kernel_rfl) (by rfl)
      exact Sp.sp_value rfl (Sp.wanted_none rfl) (v := .pointer (some ⟨t, 0, none⟩)) (w' := w1) (by simp [execOp, Act.eval, d44, Sp.gd d44, go_sem]) hI (.refl _ _) rfl
    · have d45 : a.tmps.getD 45 undef = .pointer (some ⟨t, 0, none⟩) := F.val 39 45 (by kernel_rfl) (by rfl)
      exact Sp.sp_value rfl (Sp.wanted_none rfl) (v := .pointer (some ⟨t, 9, none⟩)) (w' := w1) (by simp [execOp, Act.eval, d45, Sp.gd d45, go_sem]) hI (.refl _ _) rfl
    · have d46 : a.tmps.getD 46 undef = .pointer (some ⟨t, 9, none⟩) := F.val 40 46 (by kernel_rfl) (by rfl)
      exact Sp.sp_value rfl (Sp.wanted_none rfl) (v := v2) (w' := w1) (by simp [execOp, Act.eval, d46, Sp.gd d46, hI.cell (t, 78, tok ty s0 s1 s2 e0 e1 e2 en v1 v2 v3 sy ma mi) (by simp) 9 rfl, go_sem]) hI (.refl _ _) rfl
    · have d0 : a.tmps.getD 0 undef = .pointer (some ⟨t, 0, none⟩) := F.out 0 (by kernel_rfl)
      exact Sp.sp_value rfl (Sp.wanted_none rfl) (v := .pointer (some ⟨t, 0, none⟩)) (w' := w1) (by simp [execOp, Act.eval, d0, Sp.gd d0, go_sem]) hI (.refl _ _) rfl
    · have d48 : a.tmps.getD 48 undef = .pointer (some ⟨t, 0, none⟩) := F.val 42 48 (by kernel_rfl) (by rfl)
      exact Sp.sp_value rfl (Sp.wanted_none rfl) (v := .pointer (some ⟨t, 0, none⟩)) (w' := w1) (by simp [execOp, Act.eval, d48, Sp.gd d48, go_sem]) hI (.refl _ _) rfl
    · have d49 : a.tmps.getD 49 undef = .pointer (some ⟨t, 0, none⟩) := F.val 43 49 (by kernel_rfl) (by rfl)
      exact Sp.sp_value rfl (Sp.wanted_none rfl) (v := .pointer (some ⟨t, 10, none⟩)) (w' := w1) (by simp [execOp, Act.eval, d49, Sp.gd d49, go_sem]) hI (.refl _ _) rfl
    · have d50 : a.tmps.getD 50 undef = .pointer (some ⟨t, 10, none⟩) := F.val 44 50 (by kernel_rfl) (by rfl)
      exact Sp.sp_value rfl (Sp.wanted_none rfl) (v := v3) (w' := w1) (by simp [execOp, Act.eval, d50, Sp.gd d50, hI.cell (t, 78, tok ty s0 s1 s2 e0 e1 e2 en v1 v2 v3 sy ma mi) (by simp) 10 rfl, go_sem]) hI (.refl _ _) rfl
    · have d43 : a.tmps.getD 43 undef = v1 := F.val 37 43 (by kernel_rfl) (by rfl)
      have d47 : a.tmps.getD 47 undef = v2 := F.val 41 47 (by kernel_rfl) (by rfl)
      have d51 : a.tmps.getD 51 undef = v3 := F.val 45 51 (by kernel_rfl) (by rfl)
      obtain ⟨x1, l1, k1, rfl⟩ := h1
      obtain ⟨x2, l2, k2, rfl⟩ := h2
      obtain ⟨x3, l3, k3, rfl⟩ := h3
      exact Sp.sp_value rfl (Sp.wanted_none rfl) (v := .agg #[.slice x1 l1 k1, .slice x2 l2 k2, .slice x3 l3 k3]) (w' := w1) (by simp [execOp, Act.eval, d43, Sp.gd d43, d47, Sp.gd d47, d51, Sp.gd d51, go_sem]) hI (.refl _ _) rfl
    · have d2 : a.tmps.getD 2 undef = .pointer (some ⟨w0.heap.size, 0, none⟩) := F.out 2 (by kernel_rfl)
      have d29 : a.tmps.getD 29 undef = .agg #[.int .i64 ty, .int .i64 sy, .int .i64 en, .int .i64 ma, .int .i64 mi] := F.val 23 29 (by kernel_rfl) (by rfl)
      have hst := hI.store (w0.heap.size, 151, five ty sy en ma mi) (by simp) (by kernel_rfl) (by kernel_rfl)
      have g1 := Sp.gd d2
      have g2 := Sp.gd d29
      have hst1 : (Instr.storeAt 151 (.pointer (some ⟨w0.heap.size, 0, none⟩)) (.agg #[.int .i64 ty, .int .i64 sy, .int .i64 en, .int .i64 ma, .int .i64 mi])).run Tryd.prog w1 = _ := hst.1
      exact Sp.sp_store rfl (Sp.wanted_none rfl) (by simp [execOp, Act.eval, g1, g2, hst1]) hst.2.1 hst.2.2.1 hst.2.2.2
    · have d3 : a.tmps.getD 3 undef = .pointer (some ⟨(w0.heap.size + 1), 0, none⟩) := F.out 3 (by kernel_rfl)
      have d34 : a.tmps.getD 34 undef = .agg #[.int .i64 s0, .int .i64 s1, .int .i64 s2] := F.val 28 34 (by kernel_rfl) (by rfl)
      have hst := hI.store (w0.heap.size + 1, 70, tri s0 s1 s2) (by simp) (by kernel_rfl) (by kernel_rfl)
      have g1 := Sp.gd d3
      have g2 := Sp.gd d34
      have hst1 : (Instr.storeAt 70 (.pointer (some ⟨w0.heap.size + 1, 0, none⟩)) (.agg #[.int .i64 s0, .int .i64 s1, .int .i64 s2])).run Tryd.prog w1 = _ := hst.1
      exact Sp.sp_store rfl (Sp.wanted_none rfl) (by simp [execOp, Act.eval, g1, g2, hst1]) hst.2.1 hst.2.2.1 hst.2.2.2
    · have d4 : a.tmps.getD 4 undef = .pointer (some ⟨(w0.heap.size + 2), 0, none⟩) := F.out 4 (by kernel_rfl)
      have d39 : a.tmps.getD 39 undef = .agg #[.int .i64 e0, .int .i64 e1, .int .i64 e2] := F.val 33 39 (by kernel_rfl) (by rfl)
      have hst := hI.store (w0.heap.size + 2, 70, tri e0 e1 e2) (by simp) (by kernel_rfl) (by kernel_rfl)
      have g1 := Sp.gd d4
      have g2 := Sp.gd d39
      have hst1 : (Instr.storeAt 70 (.pointer (some ⟨w0.heap.size + 2, 0, none⟩)) (.agg #[.int .i64 e0, .int .i64 e1, .int .i64 e2])).run Tryd.prog w1 = _ := hst.1
      exact Sp.sp_store rfl (Sp.wanted_none rfl) (by simp [execOp, Act.eval, g1, g2, hst1]) hst.2.1 hst.2.2.1 hst.2.2.2
    · have d5 : a.tmps.getD 5 undef = .pointer (some ⟨(w0.heap.size + 3), 0, none⟩) := F.out 5 (by kernel_rfl)
      have d52 : a.tmps.getD 52 undef = .agg #[v1, v2, v3] := F.val 46 52 (by kernel_rfl) (by rfl)
      have hst := hI.store (w0.heap.size + 3, 152, [v1, v2, v3]) (by simp) (by kernel_rfl) (by simp [o1, o2, o3])
      have g1 := Sp.gd d5
      have g2 := Sp.gd d52
      have hst1 : (Instr.storeAt 152 (.pointer (some ⟨w0.heap.size + 3, 0, none⟩)) (.agg #[v1, v2, v3])).run Tryd.prog w1 = _ := hst.1
      exact Sp.sp_store rfl (Sp.wanted_none rfl) (by simp [execOp, Act.eval, g1, g2, hst1]) hst.2.1 hst.2.2.1 hst.2.2.2
  · intro val w1 hI hS
    have g2 : Bk w1 w0.heap.size 151 (five ty sy en ma mi) := hS 47 (by decide)
    have g3 : Bk w1 (w0.heap.size + 1) 70 (tri s0 s1 s2) := hS 48 (by decide)
    have g4 : Bk w1 (w0.heap.size + 2) 70 (tri e0 e1 e2) := hS 49 (by decide)
    have g5 : Bk w1 (w0.heap.size + 3) 152 [v1, v2, v3] := hS 50 (by decide)
    simp only [Sp.setAll, List.setIfInBounds_toArray, List.set_cons_zero, List.set_cons_succ]
    clear hS
    have c20 := (at_ g2 0 rfl).1
    have c21 := (at_ g2 1 rfl).1
    have c22 := (at_ g2 2 rfl).1
    have c23 := (at_ g2 3 rfl).1
    have c24 := (at_ g2 4 rfl).1
    have c30 := (at_ g3 0 rfl).1
    have c31 := (at_ g3 1 rfl).1
    have c32 := (at_ g3 2 rfl).1
    have c40 := (at_ g4 0 rfl).1
    have c41 := (at_ g4 1 rfl).1
    have c42 := (at_ g4 2 rfl).1
    have c50 := (at_ g5 0 rfl).1
    have c51 := (at_ g5 1 rfl).1
    have c52 := (at_ g5 2 rfl).1
    have HB := Lib.hid hI.bel
    clear hI g2 g3 g4 g5 HM HWA
    go_wp2_with fail
    (try simp only [Exit.inBlock, Exit.then])
    refine bodyPost_ret (by simp [results, Tryd.results106, c20, c21, c22, c23, c24, c30, c31, c32, c40, c41, c42, c50, c51, c52, go_sem]; try rfl) rfl ?_
    exact ⟨rfl, HB.out⟩
end Go.Proofs.YtocbbekciphjgaaDoor.Sc
