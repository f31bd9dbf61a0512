/- TkB, QdD: parts of the proof, one behind another. -/
import Derived.Laws.AppendOwnNone
import Derived.Test.YtocbbekciphjgaaDoorMz10
import Derived.Test.YtocbbekciphjgaaDoorMz14
import Derived.Test.YtocbbekciphjgaaDoorMz17
/- TkB -/
/- A token, and no fault (impl.token, impl.scanned): the walks. Printed by genTkB.py. -/
namespace Go.Proofs.YtocbbekciphjgaaDoor.Sc
open Go.RowKit Go.Proofs.YtocbbekciphjgaaDoor.Rdp Go.Proofs.YtocbbekciphjgaaDoor.Pa
set_option linter.unusedVariables false
set_option linter.unusedSimpArgs false
/-- A slice that holds these bytes; none without a byte. -/
def Tx (w : World) (v : Value) (l : List Int) : Prop :=
  (v = .slice none 0 0 ∧ l = []) ∨ ∃ g c, v = .slice (some ⟨g, 0, none⟩) l.length c ∧ ∀ i, i < l.length → w.cell? ⟨g, 0 + i, none⟩ = some (.int .u8 (l.getD i 0))
theorem Tx.slice {w : World} {v : Value} {l : List Int} (h : Tx w v l) : ∃ a n c, v = .slice a n c := by
  rcases h with ⟨h, _⟩ | ⟨g, c, h, _⟩
  · exact ⟨_, _, _, h⟩
  · exact ⟨_, _, _, h⟩
theorem Tx.below {w w' : World} {v : Value} {l : List Int} (h : Tx w v l) (hb : Below w.heap.size w w') : Tx w' v l := by
  rcases h with h | ⟨g, c, h1, h2⟩
  · exact .inl h
  · refine .inr ⟨g, c, h1, fun i hi => ?_⟩
    rw [hb.cell (p := ⟨g, 0 + i, none⟩) (World.block_lt_of_cell? w ⟨g, 0 + i, none⟩ (h2 i hi))]
    exact h2 i hi
theorem Tx.kp {w w' : World} {v : Value} {l : List Int} {ps : List Nat} (h : Tx w v l) (hk : Kp ps w w') (hp : ∀ g c, v = .slice (some ⟨g, 0, none⟩) l.length c → g ∉ ps) : Tx w' v l := by
  rcases h with h | ⟨g, c, h1, h2⟩
  · exact .inl h
  · exact .inr ⟨g, c, h1, fun i hi => kp_cell hk (h2 i hi) (hp g c h1)⟩
theorem conv_txt {w : World} {v : Value} {l : List Int} (h : Tx w v l) : (convert 22 9 v).run Tryd.prog w = .ok (.string (strOfNums l)) w := by
  rcases h with ⟨rfl, rfl⟩ | ⟨g, c, rfl, h2⟩
  · exact run_convert_bytes_nil w 22 5 Tryd.underlying22 Tryd.underlying5 0 0 9 Tryd.underlying9
  · exact run_convert_bytes_arg w 22 5 Tryd.underlying22 Tryd.underlying5 g 0 l.length c l rfl h2 9 Tryd.underlying9
/-- A token of the thin package, in memory. -/
def full (ty s0 s1 s2 e0 e1 e2 en : Int) (l1 l2 l3 : List Int) (sy ma mi : Int) : List Value := [.int .i64 ty, .int .i64 s0, .int .i64 s1, .int .i64 s2, .int .i64 e0, .int .i64 e1, .int .i64 e2, .string (strOfNums l1), .string (strOfNums l2), .string (strOfNums l3), .int .i64 (sty sy), .int .i64 en, .int .i64 ma, .int .i64 mi]
def Sh (w0 : World) (n1 : Nat) (ty s0 s1 s2 e0 e1 e2 en : Int) (v1 v2 v3 : Value) (sy ma mi : Int) (l1 l2 l3 : List Int) : Nat → Value → World → Prop
  | 0, v, _ => v = .pointer (some ⟨n1, 0, none⟩)
  | 1, v, _ => v = .int .i64 ty
  | 2, v, _ => v = .agg #[.int .i64 s0, .int .i64 s1, .int .i64 s2]
  | 3, v, _ => v = .agg #[.int .i64 s0, .int .i64 s1, .int .i64 s2]
  | 4, v, _ => v = .agg #[.int .i64 e0, .int .i64 e1, .int .i64 e2]
  | 5, v, _ => v = .agg #[.int .i64 e0, .int .i64 e1, .int .i64 e2]
  | 6, v, _ => v = .pointer (some ⟨(n1 + 3), 0, none⟩)
  | 7, v, _ => v = v1
  | 8, v, _ => v = .string (strOfNums l1)
  | 9, v, _ => v = .pointer (some ⟨(n1 + 3), 1, none⟩)
  | 10, v, _ => v = v2
  | 11, v, _ => v = .string (strOfNums l2)
  | 12, v, _ => v = .pointer (some ⟨(n1 + 3), 2, none⟩)
  | 13, v, _ => v = v3
  | 14, v, _ => v = .string (strOfNums l3)
  | 15, v, _ => v = .pointer (some ⟨n1, 1, none⟩)
  | 16, v, _ => v = .int .i64 sy
  | 17, v, _ => v = .int .i64 (sty sy)
  | 18, v, _ => v = .pointer (some ⟨n1, 2, none⟩)
  | 19, v, _ => v = .int .i64 en
  | 20, v, _ => v = .pointer (some ⟨n1, 3, none⟩)
  | 21, v, _ => v = .int .i64 ma
  | 22, v, _ => v = .pointer (some ⟨n1, 4, none⟩)
  | 23, v, _ => v = .int .i64 mi
  | 24, v, _ => v = .agg (full ty s0 s1 s2 e0 e1 e2 en l1 l2 l3 sy ma mi).toArray
  | 25, v, w => Bk w w0.heap.size 37 (full ty s0 s1 s2 e0 e1 e2 en l1 l2 l3 sy ma mi)
  | _, _, _ => True
theorem Sh_mono (w0 : World) (n1 : Nat) (ty s0 s1 s2 e0 e1 e2 en : Int) (v1 v2 v3 : Value) (sy ma mi : Int) (l1 l2 l3 : List Int) (i : Nat) (v : Value) (w w' : World) (hR : MidR [(w0.heap.size, 37, full ty s0 s1 s2 e0 e1 e2 en l1 l2 l3 sy ma mi)] w w') (h : Sh w0 n1 ty s0 s1 s2 e0 e1 e2 en v1 v2 v3 sy ma mi l1 l2 l3 i v w) : Sh w0 n1 ty s0 s1 s2 e0 e1 e2 en v1 v2 v3 sy ma mi l1 l2 l3 i v w' := by
  unfold Sh at h ⊢
  split at h <;> first | exact h | exact hR (w0.heap.size, 37, full ty s0 s1 s2 e0 e1 e2 en l1 l2 l3 sy ma mi) (by simp) h
set_option maxHeartbeats 4000000 in
set_option maxRecDepth 100000 in
theorem token_any (t : Nat) (ty s0 s1 s2 e0 e1 e2 en : Int) (v1 v2 v3 : Value) (sy ma mi : Int) (l1 l2 l3 : List Int) (w0 : World) (h : Bk w0 t 78 (tok ty s0 s1 s2 e0 e1 e2 en v1 v2 v3 sy ma mi)) (h1 : Tx w0 v1 l1) (h2 : Tx w0 v2 l2) (h3 : Tx w0 v3 l3) (hsy : IntKind.i64.wrap sy = sy) (hma : IntKind.i64.wrap ma = ma) (hmi : IntKind.i64.wrap mi = mi) :
    Calls Tryd.prog 68 #[.pointer (some ⟨t, 0, none⟩)] w0 fun e w' => e = .returned (.agg (full ty s0 s1 s2 e0 e1 e2 en l1 l2 l3 sy ma mi).toArray) ∧ Below w0.heap.size w0 w' := by
  have H := Lib.hid h
  clear h
  go_enter Tryd.func68, Tryd.ntmps68
  go_upto_region 1 with fail
  obtain ⟨wa, HWA⟩ : ∃ wa : World, Hid ((w0.alloc (.cells (full 0 0 0 0 0 0 0 0 [] [] [] 0 0 0).toArray 37)) = wa) := ⟨_, rfl⟩
  have hb : Bk wa w0.heap.size 37 (full 0 0 0 0 0 0 0 0 [] [] [] 0 0 0) := by rw [← HWA.out]; exact Bk.new _ _ _
  have hb0 : Below w0.heap.size w0 wa := by rw [← HWA.out]; exact (Below.refl _ _).alloc (Nat.le_refl _) _
  have ht : Bk wa t 78 (tok ty s0 s1 s2 e0 e1 e2 en v1 v2 v3 sy ma mi) := by rw [← HWA.out]; exact H.out.alloc _
  have hsz : wa.heap.size = w0.heap.size + 1 := by rw [← HWA.out]; simp
  have HB := Lib.hid hb
  have HB0 := Lib.hid hb0
  have HT := Lib.hid ht
  clear hb hb0 ht
  rw [show (w0.alloc (.cells #[.int .i64 0, .int .i64 0, .int .i64 0, .int .i64 0, .int .i64 0, .int .i64 0, .int .i64 0, .string ⟨#[]⟩, .string ⟨#[]⟩, .string ⟨#[]⟩, .int .i64 0, .int .i64 0, .int .i64 0, .int .i64 0] 37)) = wa from HWA.out]
  go_wp2_with fail
  refine (zparts_any t ty s0 s1 s2 e0 e1 e2 en v1 v2 v3 sy ma mi wa HT.out h1.slice h2.slice h3.slice hsy hma hmi).mono ?_
  rintro e w1 ⟨rfl, hb1⟩
  have hs1 := hb1.size
  obtain ⟨n1, HN1⟩ : ∃ n1 : Nat, Hid (w1.heap.size = n1) := ⟨_, rfl⟩
  obtain ⟨x1, y1, z1, hv1⟩ := h1.slice
  obtain ⟨x2, y2, z2, hv2⟩ := h2.slice
  obtain ⟨x3, y3, z3, hv3⟩ := h3.slice
  have hm : Mid [(n1, 151, five ty sy en ma mi), (n1 + 1, 70, tri s0 s1 s2), (n1 + 2, 70, tri e0 e1 e2), (n1 + 3, 152, [v1, v2, v3])] [(w0.heap.size, 37, full ty s0 s1 s2 e0 e1 e2 en l1 l2 l3 sy ma mi)] w0.heap.size w0 ((((w1.alloc (.cells (five ty sy en ma mi).toArray 151)).alloc (.cells (tri s0 s1 s2).toArray 70)).alloc (.cells (tri e0 e1 e2).toArray 70)).alloc (.cells [v1, v2, v3].toArray 152)) := by
    have g1 := Bk.new w1 (five ty sy en ma mi) 151
    have g2 := Bk.new (w1.alloc (.cells (five ty sy en ma mi).toArray 151)) (tri s0 s1 s2) 70
    have g3 := Bk.new ((w1.alloc (.cells (five ty sy en ma mi).toArray 151)).alloc (.cells (tri s0 s1 s2).toArray 70)) (tri e0 e1 e2) 70
    have g4 := Bk.new (((w1.alloc (.cells (five ty sy en ma mi).toArray 151)).alloc (.cells (tri s0 s1 s2).toArray 70)).alloc (.cells (tri e0 e1 e2).toArray 70)) [v1, v2, v3] 152
    have hle : w0.heap.size + 1 ≤ n1 := by rw [← HN1.out]; omega
    simp only [World.size_alloc] at g2 g3 g4
    rw [HN1.out] at g1 g2 g3 g4
    refine ⟨?_, ?_, (((((HB0.out.trans (hb1.mono (by omega))).alloc (by omega) _).alloc (by simp; omega) _).alloc (by simp; omega) _).alloc (by simp; omega) _), Nat.le_refl _, by simp, by simp; omega, by simp⟩
    · simp only [List.mem_cons, List.not_mem_nil, or_false, forall_eq_or_imp, forall_eq]
      exact ⟨((g1.alloc _).alloc _).alloc _, (g2.alloc _).alloc _, g3.alloc _, g4⟩
    · simp only [List.mem_singleton, forall_eq]
      exact ⟨_, ((((HB.out.kp (Kp.of_below (ps := []) hb1) (by simp)).alloc _).alloc _).alloc _).alloc _, rfl⟩
  have HM := Lib.hid hm
  have H1 := Lib.hid h1
  have H2 := Lib.hid h2
  have H3 := Lib.hid h3
  clear hm hb1 h1 h2 h3
  go_upto_region 2 with fail
  obtain ⟨w2, HW2⟩ : ∃ w2 : World, Hid ((((w1.alloc (.cells (five ty sy en ma mi).toArray 151)).alloc (.cells (tri s0 s1 s2).toArray 70)).alloc (.cells (tri e0 e1 e2).toArray 70)).alloc (.cells [v1, v2, v3].toArray 152) = w2) := ⟨_, rfl⟩
  rw [HW2.out] at HM
  rw [← hv1, ← hv2, ← hv3]
  rw [show (((w1.alloc (.cells #[.int .i64 ty, .int .i64 sy, .int .i64 en, .int .i64 ma, .int .i64 mi] 151)).alloc (.cells #[.int .i64 s0, .int .i64 s1, .int .i64 s2] 70)).alloc (.cells #[.int .i64 e0, .int .i64 e1, .int .i64 e2] 70)).alloc (.cells #[v1, v2, v3] 152) = w2 from HW2.out, HN1.out]
  have HV1 := Lib.hid hv1
  have HV2 := Lib.hid hv2
  have HV3 := Lib.hid hv3
  clear hv1 hv2 hv3
  have h1 := H1.out
  have h2 := H2.out
  have h3 := H3.out
  refine Sp.region_specs (by kernel_rfl) _ (by kernel_rfl) (by kernel_rfl) (by kernel_rfl) rfl (by kernel_rfl) (Sh w0 n1 ty s0 s1 s2 e0 e1 e2 en v1 v2 v3 sy ma mi l1 l2 l3) (Mid [(n1, 151, five ty sy en ma mi), (n1 + 1, 70, tri s0 s1 s2), (n1 + 2, 70, tri e0 e1 e2), (n1 + 3, 152, [v1, v2, v3])] [(w0.heap.size, 37, full ty s0 s1 s2 e0 e1 e2 en l1 l2 l3 sy ma mi)] w0.heap.size w0) (MidR [(w0.heap.size, 37, full ty s0 s1 s2 e0 e1 e2 en l1 l2 l3 sy ma mi)]) (HM.out.below ⟨rfl, rfl, rfl, Nat.le_refl _, fun _ _ => rfl⟩) (fun i v w w' hR => Sh_mono w0 n1 ty s0 s1 s2 e0 e1 e2 en v1 v2 v3 sy ma mi l1 l2 l3 i v w w' hR) ?_ ?_
  · clear HW2 HWA HB HB0 HT H HN1
    intro i hi a w1 F hI
    have hcases : i = 0 ∨ i = 1 ∨ i = 2 ∨ i = 3 ∨ i = 4 ∨ i = 5 ∨ i = 6 ∨ i = 7 ∨ i = 8 ∨ i = 9 ∨ i = 10 ∨ i = 11 ∨ i = 12 ∨ i = 13 ∨ i = 14 ∨ i = 15 ∨ i = 16 ∨ i = 17 ∨ i = 18 ∨ i = 19 ∨ i = 20 ∨ i = 21 ∨ i = 22 ∨ i = 23 ∨ i = 24 ∨ i = 25 := by have hi' : i < 26 := hi; omega
    rcases hcases with rfl | rfl | rfl | rfl | rfl | rfl | rfl | rfl | rfl | rfl | rfl | rfl | rfl | rfl | rfl | rfl | rfl | rfl | rfl | rfl | rfl | rfl | rfl | rfl | rfl | rfl
    · have d3 : a.tmps.getD 3 undef = .pointer (some ⟨n1, 0, none⟩) := F.out 3 (by kernel_rfl)
      exact Sp.sp_value rfl (Sp.wanted_none rfl) (v := .pointer (some ⟨n1, 0, none⟩)) (w' := w1) (by simp [execOp, Act.eval, d3, Sp.gd d3, go_sem]) hI (.refl _ _) rfl
    · have d14 : a.tmps.getD 14 undef = .pointer (some ⟨n1, 0, none⟩) := F.val 0 14 (by kernel_rfl) (by rfl)
      exact Sp.sp_value rfl (Sp.wanted_none rfl) (v := .int .i64 ty) (w' := w1) (by simp [execOp, Act.eval, d14, Sp.gd d14, hI.cell (n1, 151, five ty sy en ma mi) (by simp) 0 rfl, go_sem]) hI (.refl _ _) rfl
    · have d4 : a.tmps.getD 4 undef = .pointer (some ⟨(n1 + 1), 0, none⟩) := F.out 4 (by kernel_rfl)
      exact Sp.sp_value rfl (Sp.wanted_none rfl) (v := .agg #[.int .i64 s0, .int .i64 s1, .int .i64 s2]) (w' := w1) (by simp [execOp, Act.eval, d4, Sp.gd d4, hI.cell (n1 + 1, 70, tri s0 s1 s2) (by simp) 0 rfl, hI.cell (n1 + 1, 70, tri s0 s1 s2) (by simp) 1 rfl, hI.cell (n1 + 1, 70, tri s0 s1 s2) (by simp) 2 rfl, go_sem]) hI (.refl _ _) rfl
    · have d16 : a.tmps.getD 16 undef = .agg #[.int .i64 s0, .int .i64 s1, .int .i64 s2] := F.val 2 16 (by kernel_rfl) (by rfl)
      refine Sp.sp_call Tryd.func36 (by kernel_rfl) rfl #[.agg #[.int .i64 s0, .int .i64 s1, .int .i64 s2]] rfl (Sp.wanted_none rfl) rfl (by simp only [List.map_toArray, List.map_cons, List.map_nil, Act.eval, d16]) ?_
      refine (mark_any _ _ _ _).mono ?_
      rintro e w3 ⟨rfl, hb3⟩
      exact ⟨_, rfl, hI.below hb3, .below hb3, rfl⟩
    · have d5 : a.tmps.getD 5 undef = .pointer (some ⟨(n1 + 2), 0, none⟩) := F.out 5 (by kernel_rfl)
      exact Sp.sp_value rfl (Sp.wanted_none rfl) (v := .agg #[.int .i64 e0, .int .i64 e1, .int .i64 e2]) (w' := w1) (by simp [execOp, Act.eval, d5, Sp.gd d5, hI.cell (n1 + 2, 70, tri e0 e1 e2) (by simp) 0 rfl, hI.cell (n1 + 2, 70, tri e0 e1 e2) (by simp) 1 rfl, hI.cell (n1 + 2, 70, tri e0 e1 e2) (by simp) 2 rfl, go_sem]) hI (.refl _ _) rfl
    · have d18 : a.tmps.getD 18 undef = .agg #[.int .i64 e0, .int .i64 e1, .int .i64 e2] := F.val 4 18 (by kernel_rfl) (by rfl)
      refine Sp.sp_call Tryd.func36 (by kernel_rfl) rfl #[.agg #[.int .i64 e0, .int .i64 e1, .int .i64 e2]] rfl (Sp.wanted_none rfl) rfl (by simp only [List.map_toArray, List.map_cons, List.map_nil, Act.eval, d18]) ?_
      refine (mark_any _ _ _ _).mono ?_
      rintro e w3 ⟨rfl, hb3⟩
      exact ⟨_, rfl, hI.below hb3, .below hb3, rfl⟩
    · have d6 : a.tmps.getD 6 undef = .pointer (some ⟨(n1 + 3), 0, none⟩) := F.out 6 (by kernel_rfl)
      exact Sp.sp_value rfl (Sp.wanted_none rfl) (v := .pointer (some ⟨(n1 + 3), 0, none⟩)) (w' := w1) (by simp [execOp, Act.eval, d6, Sp.gd d6, go_sem]) hI (.refl _ _) rfl
    · have d20 : a.tmps.getD 20 undef = .pointer (some ⟨(n1 + 3), 0, none⟩) := F.val 6 20 (by kernel_rfl) (by rfl)
      exact Sp.sp_value rfl (Sp.wanted_none rfl) (v := v1) (w' := w1) (by simp [execOp, Act.eval, d20, Sp.gd d20, hI.cell (n1 + 3, 152, [v1, v2, v3]) (by simp) 0 rfl, go_sem]) hI (.refl _ _) rfl
    · have d21 : a.tmps.getD 21 undef = v1 := F.val 7 21 (by kernel_rfl) (by rfl)
      have hc := conv_txt (h1.below hI.bel)
      have g1 := Sp.gd d21
      exact Sp.sp_value rfl (Sp.wanted_none rfl) (v := .string (strOfNums l1)) (w' := w1) (by simp [execOp, Act.eval, g1, hc]) hI (.refl _ _) rfl
    · have d6 : a.tmps.getD 6 undef = .pointer (some ⟨(n1 + 3), 0, none⟩) := F.out 6 (by kernel_rfl)
      exact Sp.sp_value rfl (Sp.wanted_none rfl) (v := .pointer (some ⟨(n1 + 3), 1, none⟩)) (w' := w1) (by simp [execOp, Act.eval, d6, Sp.gd d6, go_sem]) hI (.refl _ _) rfl
    · have d23 : a.tmps.getD 23 undef = .pointer (some ⟨(n1 + 3), 1, none⟩) := F.val 9 23 (by kernel_rfl) (by rfl)
      exact Sp.sp_value rfl (Sp.wanted_none rfl) (v := v2) (w' := w1) (by simp [execOp, Act.eval, d23, Sp.gd d23, hI.cell (n1 + 3, 152, [v1, v2, v3]) (by simp) 1 rfl, go_sem]) hI (.refl _ _) rfl
    · have d24 : a.tmps.getD 24 undef = v2 := F.val 10 24 (by kernel_rfl) (by rfl)
      have hc := conv_txt (h2.below hI.bel)
      have g1 := Sp.gd d24
      exact Sp.sp_value rfl (Sp.wanted_none rfl) (v := .string (strOfNums l2)) (w' := w1) (by simp [execOp, Act.eval, g1, hc]) hI (.refl _ _) rfl
    · have d6 : a.tmps.getD 6 undef = .pointer (some ⟨(n1 + 3), 0, none⟩) := F.out 6 (by kernel_rfl)
      exact Sp.sp_value rfl (Sp.wanted_none rfl) (v := .pointer (some ⟨(n1 + 3), 2, none⟩)) (w' := w1) (by simp [execOp, Act.eval, d6, Sp.gd d6, go_sem]) hI (.refl _ _) rfl
    · have d26 : a.tmps.getD 26 undef = .pointer (some ⟨(n1 + 3), 2, none⟩) := F.val 12 26 (by kernel_rfl) (by rfl)
      exact Sp.sp_value rfl (Sp.wanted_none rfl) (v := v3) (w' := w1) (by simp [execOp, Act.eval, d26, Sp.gd d26, hI.cell (n1 + 3, 152, [v1, v2, v3]) (by simp) 2 rfl, go_sem]) hI (.refl _ _) rfl
    · have d27 : a.tmps.getD 27 undef = v3 := F.val 13 27 (by kernel_rfl) (by rfl)
      have hc := conv_txt (h3.below hI.bel)
      have g1 := Sp.gd d27
      exact Sp.sp_value rfl (Sp.wanted_none rfl) (v := .string (strOfNums l3)) (w' := w1) (by simp [execOp, Act.eval, g1, hc]) hI (.refl _ _) rfl
    · have d3 : a.tmps.getD 3 undef = .pointer (some ⟨n1, 0, none⟩) := F.out 3 (by kernel_rfl)
      exact Sp.sp_value rfl (Sp.wanted_none rfl) (v := .pointer (some ⟨n1, 1, none⟩)) (w' := w1) (by simp [execOp, Act.eval, d3, Sp.gd d3, go_sem]) hI (.refl _ _) rfl
    · have d29 : a.tmps.getD 29 undef = .pointer (some ⟨n1, 1, none⟩) := F.val 15 29 (by kernel_rfl) (by rfl)
      exact Sp.sp_value rfl (Sp.wanted_none rfl) (v := .int .i64 sy) (w' := w1) (by simp [execOp, Act.eval, d29, Sp.gd d29, hI.cell (n1, 151, five ty sy en ma mi) (by simp) 1 rfl, go_sem]) hI (.refl _ _) rfl
    · have d30 : a.tmps.getD 30 undef = .int .i64 sy := F.val 16 30 (by kernel_rfl) (by rfl)
      refine Sp.sp_call Tryd.func107 (by kernel_rfl) rfl #[.int .i64 sy] rfl (Sp.wanted_none rfl) rfl (by simp only [List.map_toArray, List.map_cons, List.map_nil, Act.eval, d30]) ?_
      refine (style_any _ _).mono ?_
      rintro e w3 ⟨rfl, rfl⟩
      exact ⟨_, rfl, hI, .refl _ _, rfl⟩
    · have d3 : a.tmps.getD 3 undef = .pointer (some ⟨n1, 0, none⟩) := F.out 3 (by kernel_rfl)
      exact Sp.sp_value rfl (Sp.wanted_none rfl) (v := .pointer (some ⟨n1, 2, none⟩)) (w' := w1) (by simp [execOp, Act.eval, d3, Sp.gd d3, go_sem]) hI (.refl _ _) rfl
    · have d32 : a.tmps.getD 32 undef = .pointer (some ⟨n1, 2, none⟩) := F.val 18 32 (by kernel_rfl) (by rfl)
      exact Sp.sp_value rfl (Sp.wanted_none rfl) (v := .int .i64 en) (w' := w1) (by simp [execOp, Act.eval, d32, Sp.gd d32, hI.cell (n1, 151, five ty sy en ma mi) (by simp) 2 rfl, go_sem]) hI (.refl _ _) rfl
    · have d3 : a.tmps.getD 3 undef = .pointer (some ⟨n1, 0, none⟩) := F.out 3 (by kernel_rfl)
      exact Sp.sp_value rfl (Sp.wanted_none rfl) (v := .pointer (some ⟨n1, 3, none⟩)) (w' := w1) (by simp [execOp, Act.eval, d3, Sp.gd d3, go_sem]) hI (.refl _ _) rfl
    · have d34 : a.tmps.getD 34 undef = .pointer (some ⟨n1, 3, none⟩) := F.val 20 34 (by kernel_rfl) (by rfl)
      exact Sp.sp_value rfl (Sp.wanted_none rfl) (v := .int .i64 ma) (w' := w1) (by simp [execOp, Act.eval, d34, Sp.gd d34, hI.cell (n1, 151, five ty sy en ma mi) (by simp) 3 rfl, go_sem]) hI (.refl _ _) rfl
    · have d3 : a.tmps.getD 3 undef = .pointer (some ⟨n1, 0, none⟩) := F.out 3 (by kernel_rfl)
      exact Sp.sp_value rfl (Sp.wanted_none rfl) (v := .pointer (some ⟨n1, 4, none⟩)) (w' := w1) (by simp [execOp, Act.eval, d3, Sp.gd d3, go_sem]) hI (.refl _ _) rfl
    · have d36 : a.tmps.getD 36 undef = .pointer (some ⟨n1, 4, none⟩) := F.val 22 36 (by kernel_rfl) (by rfl)
      exact Sp.sp_value rfl (Sp.wanted_none rfl) (v := .int .i64 mi) (w' := w1) (by simp [execOp, Act.eval, d36, Sp.gd d36, hI.cell (n1, 151, five ty sy en ma mi) (by simp) 4 rfl, go_sem]) hI (.refl _ _) rfl
    · have d15 : a.tmps.getD 15 undef = .int .i64 ty := F.val 1 15 (by kernel_rfl) (by rfl)
      have d17 : a.tmps.getD 17 undef = .agg #[.int .i64 s0, .int .i64 s1, .int .i64 s2] := F.val 3 17 (by kernel_rfl) (by rfl)
      have d19 : a.tmps.getD 19 undef = .agg #[.int .i64 e0, .int .i64 e1, .int .i64 e2] := F.val 5 19 (by kernel_rfl) (by rfl)
      have d22 : a.tmps.getD 22 undef = .string (strOfNums l1) := F.val 8 22 (by kernel_rfl) (by rfl)
      have d25 : a.tmps.getD 25 undef = .string (strOfNums l2) := F.val 11 25 (by kernel_rfl) (by rfl)
      have d28 : a.tmps.getD 28 undef = .string (strOfNums l3) := F.val 14 28 (by kernel_rfl) (by rfl)
      have d31 : a.tmps.getD 31 undef = .int .i64 (sty sy) := F.val 17 31 (by kernel_rfl) (by rfl)
      have d33 : a.tmps.getD 33 undef = .int .i64 en := F.val 19 33 (by kernel_rfl) (by rfl)
      have d35 : a.tmps.getD 35 undef = .int .i64 ma := F.val 21 35 (by kernel_rfl) (by rfl)
      have d37 : a.tmps.getD 37 undef = .int .i64 mi := F.val 23 37 (by kernel_rfl) (by rfl)
      exact Sp.sp_value rfl (Sp.wanted_none rfl) (v := .agg (full ty s0 s1 s2 e0 e1 e2 en l1 l2 l3 sy ma mi).toArray) (w' := w1) (by simp [execOp, Act.eval, d15, Sp.gd d15, d17, Sp.gd d17, d19, Sp.gd d19, d22, Sp.gd d22, d25, Sp.gd d25, d28, Sp.gd d28, d31, Sp.gd d31, d33, Sp.gd d33, d35, Sp.gd d35, d37, Sp.gd d37, full, go_sem]) hI (.refl _ _) rfl
    · have d2 : a.tmps.getD 2 undef = .pointer (some ⟨w0.heap.size, 0, none⟩) := F.out 2 (by kernel_rfl)
      have d38 : a.tmps.getD 38 undef = .agg (full ty s0 s1 s2 e0 e1 e2 en l1 l2 l3 sy ma mi).toArray := F.val 24 38 (by kernel_rfl) (by rfl)
      have hst := hI.store (w0.heap.size, 37, full ty s0 s1 s2 e0 e1 e2 en l1 l2 l3 sy ma mi) (by simp) (by kernel_rfl) (by kernel_rfl)
      have g1 := Sp.gd d2
      have g2 := Sp.gd d38
      have hst1 : (Instr.storeAt 37 (.pointer (some ⟨w0.heap.size, 0, none⟩)) (.agg (full ty s0 s1 s2 e0 e1 e2 en l1 l2 l3 sy ma mi).toArray)).run Tryd.prog w1 = _ := hst.1
      exact Sp.sp_store rfl (Sp.wanted_none rfl) (by simp [execOp, Act.eval, g1, g2, hst1]) hst.2.1 hst.2.2.1 hst.2.2.2
  · intro val w3 hI hS
    have h25 : Bk w3 w0.heap.size 37 (full ty s0 s1 s2 e0 e1 e2 en l1 l2 l3 sy ma mi) := hS 25 (by decide)
    simp only [Sp.setAll, List.setIfInBounds_toArray, List.set_cons_zero, List.set_cons_succ]
    clear hS
    have c0 := (at_ h25 0 rfl).1
    have c1 := (at_ h25 1 rfl).1
    have c2 := (at_ h25 2 rfl).1
    have c3 := (at_ h25 3 rfl).1
    have c4 := (at_ h25 4 rfl).1
    have c5 := (at_ h25 5 rfl).1
    have c6 := (at_ h25 6 rfl).1
    have c7 := (at_ h25 7 rfl).1
    have c8 := (at_ h25 8 rfl).1
    have c9 := (at_ h25 9 rfl).1
    have c10 := (at_ h25 10 rfl).1
    have c11 := (at_ h25 11 rfl).1
    have c12 := (at_ h25 12 rfl).1
    have c13 := (at_ h25 13 rfl).1
    have HBL := Lib.hid hI.bel
    clear hI h25 HM HWA HW2 HB HB0 HT H HN1 H1 H2 H3 h1 h2 h3
    go_wp2_with fail
    (try simp only [Exit.inBlock, Exit.then])
    refine bodyPost_ret (by simp [results, Tryd.results68, c0, c1, c2, c3, c4, c5, c6, c7, c8, c9, c10, c11, c12, c13, go_sem]; try rfl) rfl ?_
    exact ⟨rfl, HBL.out⟩
end Go.Proofs.YtocbbekciphjgaaDoor.Sc
/- QdD -/
/- Slices of bytes of a call's own, and what is appended to them: laws. -/
namespace Go.Proofs.YtocbbekciphjgaaDoor.Sc
open Go.RowKit Go.Proofs.YtocbbekciphjgaaDoor.Rdp Go.Proofs.YtocbbekciphjgaaDoor.Pa
set_option linter.unusedVariables false
set_option linter.unusedSimpArgs false
/-- A slice of these bytes in a block of one's own, or none at all. -/
def Row (lo : Nat) (w : World) (v : Value) (l : List Int) : Prop := w.ownsRow lo 5 1 v l.length (l.map (Value.int .u8))
/-- Not the same block. -/
def Sep (v v' : Value) : Prop := ∀ g, v.ownBlock = some g → v'.ownBlock ≠ some g
/-- What an append gives: the same block, or a new one. -/
def Grew (w : World) (v v' : Value) : Prop := v'.ownBlock = v.ownBlock ∨ ∃ g, v'.ownBlock = some g ∧ w.heap.size ≤ g
theorem Row.nil (lo : Nat) (w : World) : Row lo w (.slice none 0 0) [] := World.ownsRow_nil w lo 5 1
theorem Row.slice {lo : Nat} {w : World} {v : Value} {l : List Int} (h : Row lo w v l) : ∃ a c, v = .slice a l.length c := by
  obtain ⟨_, ⟨rfl, h0⟩ | ⟨g, c, cur, rfl, _⟩⟩ := h
  · exact ⟨none, 0, by rw [h0]⟩
  · exact ⟨_, c, rfl⟩
theorem Row.drewN {lo : Nat} {w : World} {v : Value} {l : List Int} (h : Row lo w v l) (n : Nat) : Row lo (w.drewN n) v l := h
theorem Row.kp {lo : Nat} {w w' : World} {v : Value} {l : List Int} {ps : List Nat} (h : Row lo w v l) (hk : Kp ps w w') (hp : ∀ b, v.ownBlock = some b → b ∉ ps) : Row lo w' v l := by
  obtain ⟨h1, ⟨rfl, h0⟩ | ⟨g, c, cur, rfl, h2, h3, h4⟩⟩ := h
  · exact ⟨h1, .inl ⟨rfl, h0⟩⟩
  · exact ⟨h1, .inr ⟨g, c, cur, rfl, h2, (hk.block g (Array.getElem?_eq_some_iff.1 h3).1 (hp g rfl)).trans h3, h4⟩⟩
theorem Row.low {lo lo' : Nat} {w : World} {v : Value} {l : List Int} (h : Row lo w v l) (hl : lo' ≤ lo) : Row lo' w v l := by
  obtain ⟨h1, h | ⟨g, c, cur, rfl, h2, h3⟩⟩ := h
  · exact ⟨h1, .inl h⟩
  · exact ⟨h1, .inr ⟨g, c, cur, rfl, by omega, h3⟩⟩
theorem Row.own {lo : Nat} {w : World} {v : Value} {l : List Int} (h : Row lo w v l) : ∀ g, v.ownBlock = some g → lo ≤ g ∧ g < w.heap.size := World.ownsRow.lt h
theorem Row.cell {lo : Nat} {w : World} {v : Value} {l : List Int} (h : Row lo w v l) {g : Nat} (hg : v.ownBlock = some g) (i : Nat) (hi : i < l.length) : w.cell? ⟨g, 0 + i, none⟩ = some (.int .u8 (l.getD i 0)) := by
  have := World.ownsRow.cells h hg i (.int .u8 (l.getD i 0)) (by rw [List.getElem?_map, List.getD_eq_getElem?_getD, List.getElem?_eq_getElem hi]; rfl)
  rw [Addr.add_lit] at this
  exact this
theorem Row.tx {lo : Nat} {w : World} {v : Value} {l : List Int} (h : Row lo w v l) : Tx w v l := by
  have hc := fun g (hg : v.ownBlock = some g) i hi => h.cell hg i hi
  obtain ⟨h1, ⟨rfl, h0⟩ | ⟨g, c, cur, rfl, _⟩⟩ := h
  · exact .inl ⟨rfl, List.eq_nil_of_length_eq_zero h0⟩
  · exact .inr ⟨g, c, rfl, hc g rfl⟩
theorem grown_kp {w w' : World} {o : Option Nat} (h : w.grownBy w' o) {ps : List Nat} (hp : ∀ g, o = some g → g ∈ ps) : Kp ps w w' :=
  ⟨h.os, h.tape, h.output, h.size, fun k hk hq => h.block k hk fun e => hq (hp k e.symm)⟩
theorem Grew.sep {w : World} {v v' u : Value} (h : Grew w v v') (hs : Sep v u) (hu : ∀ g, u.ownBlock = some g → g < w.heap.size) : Sep v' u := by
  intro g hg hu'
  rcases h with h | ⟨g', h1, h2⟩
  · exact hs g (h ▸ hg) hu'
  · rw [h1] at hg
    cases hg
    have := hu _ hu'
    omega
theorem Sep.symm {v v' : Value} (h : Sep v v') : Sep v' v := fun g h1 h2 => h g h2 h1
theorem Sep.nil (v : Value) : Sep (.slice none 0 0) v := fun g h => by cases h
/-- Bytes are appended: the run. -/
theorem run_add (lo ty : Nat) (w : World) (v : Value) (l news : List Int) (h : Row lo w v l) (ad : Addr) (c : Nat) (hn : ∀ j, j < news.length → w.cell? (ad.add j) = some (.int .u8 (news.getD j 0))) (hsz : l.length + news.length ≤ 1000000000) (hlo : lo ≤ w.heap.size) :
    ∃ v' w', (Builtin.append_ #[22, 22] ty #[v, .slice (some ad) news.length c]).run Tryd.prog w = .ok v' w' ∧ Row lo w' v' (l ++ news) ∧ w.grownBy w' v.ownBlock ∧ Grew w v v' := by
  obtain ⟨i0, hi, hz0, hz1, hz2⟩ := info_parts Nd.infoE
  have hnews : ∀ (j : Nat) (u : Value), (news.map (Value.int .u8))[j]? = some u → w.cell? (ad.add j) = some u := by
    intro j u hu
    rw [List.getElem?_map] at hu
    by_cases hj : j < news.length
    · rw [hn j hj]
      rw [List.getD_eq_getElem?_getD]
      rw [List.getElem?_eq_getElem hj] at hu ⊢
      exact hu
    · rw [List.getElem?_eq_none (by omega)] at hu
      cases hu
  have h1 : ∀ u ∈ news.map (Value.int .u8), u.oneCell' = true := by
    intro u hu
    obtain ⟨x, _, rfl⟩ := List.mem_map.1 hu
    rfl
  obtain ⟨v', w', hr, h2, h3, h4⟩ := run_append_own (P := Tryd.prog) w lo 22 ty 5 i0 (.int .u8 0) 1 1 Tryd.underlying22 hi hz0 hz1 hz2 rfl (by decide) v l.length _ h ad news.length c (news.map (Value.int .u8)) (by simp) hnews h1 (by unfold maxLen; omega) (by omega) hlo
  refine ⟨v', w', hr, by unfold Row; rw [List.length_append, List.map_append]; exact h2, h3, ?_⟩
  have hcs := fun g (hg : v.ownBlock = some g) => World.ownsRow.cells h hg
  obtain ⟨hx, ⟨rfl, h0⟩ | ⟨g, cap, cur, rfl, hbg, hg, hnc, hcm, hcs', htake⟩⟩ := h
  · by_cases hm : news.length = 0
    · obtain rfl := h4.2 ⟨rfl, hm⟩
      exact .inl rfl
    · have hr2 := run_append_nil (P := Tryd.prog) w 22 ty 5 i0 (.int .u8 0) Tryd.underlying22 hi hz0 ad news.length c (news.map (Value.int .u8)) (by simp [hz1]) hnews (by omega) (by omega) (by rw [hz2]; omega)
      rw [hr] at hr2
      cases hr2
      exact .inr ⟨_, rfl, Nat.le_refl _⟩
  · by_cases hroom : l.length + news.length ≤ cap
    · have hr2 := run_append_room (P := Tryd.prog) w 22 ty 5 i0 Tryd.underlying22 hi g l.length cap cur hg ad news.length c (news.map (Value.int .u8)) (by simp [hz1]) hnews h1 hroom (by rw [hz1, hcs']; simp; omega)
      rw [hr] at hr2
      cases hr2
      exact .inl rfl
    · have hr2 := run_append_grow (P := Tryd.prog) w 22 ty 5 i0 (.int .u8 0) Tryd.underlying22 hi hz0 ⟨g, 0, none⟩ l.length cap (l.map (Value.int .u8)) (by simp [hz1]) (hcs g rfl) ad news.length c (news.map (Value.int .u8)) (by simp [hz1]) hnews (by omega) (by omega) (growslice_fits (by omega) (by rw [hz2]; omega))
      rw [hr] at hr2
      cases hr2
      exact .inr ⟨_, rfl, Nat.le_refl _⟩
/-- Bytes are appended. -/
theorem wpList_add {ops : Array Oper} {rest : List Oper} {o : Oper} {a : Act} {w : World} {Q : Exit → Act → World → Prop} (hgd : o.guard = none) (s x : Operand)
    (ho : o.op = .call { callee := .builtin .append, args := #[s, x], argTypes := #[22, 22] }) (lo : Nat) (v : Value) (l news : List Int) (hs : a.eval s = v) (hown : Row lo w v l)
    (ad : Addr) (n c : Nat) (hx : a.eval x = .slice (some ad) n c) (hnn : n = news.length) (hn : ∀ j, j < news.length → w.cell? (ad.add j) = some (.int .u8 (news.getD j 0))) (hsz : l.length + news.length ≤ 1000000000) (hlo : lo ≤ w.heap.size)
    (h : ∀ v' w', Row lo w' v' (l ++ news) → w.grownBy w' v.ownBlock → Grew w v v' → wpList Tryd.prog ops Q rest (a.put o.dst v') w') : wpList Tryd.prog ops Q (o :: rest) a w := by
  subst hnn
  refine wpList_plain hgd fun K hK => ?_
  obtain ⟨v', w', hr, h2, h3, h4⟩ := run_add lo o.type w v l news hown ad c hn hsz hlo
  unfold Oper.wp execOp
  simp only [ho, resolve, invoke, builtin, Sem.run_bind, Sem.run_pure, Result.andThen_ok, List.map_toArray, List.map_cons, List.map_nil, hs, hx, hr]
  exact hK _ _ (h v' w' h2 h3 h4)
/-- One row is appended to another. -/
theorem wpList_join {ops : Array Oper} {rest : List Oper} {o : Oper} {a : Act} {w : World} {Q : Exit → Act → World → Prop} (hgd : o.guard = none) (s x : Operand)
    (ho : o.op = .call { callee := .builtin .append, args := #[s, x], argTypes := #[22, 22] }) (lo lo2 : Nat) (v u : Value) (l news : List Int) (hs : a.eval s = v) (hown : Row lo w v l) (hx : a.eval x = u) (hrow : Row lo2 w u news) (hsz : l.length + news.length ≤ 1000000000) (hlo : lo ≤ w.heap.size)
    (h : ∀ v' w', Row lo w' v' (l ++ news) → w.grownBy w' v.ownBlock → Grew w v v' → wpList Tryd.prog ops Q rest (a.put o.dst v') w') : wpList Tryd.prog ops Q (o :: rest) a w := by
  have hcs := fun g (hg : u.ownBlock = some g) => World.ownsRow.cells hrow hg
  have hrow' := hrow
  obtain ⟨hx1, ⟨rfl, h0⟩ | ⟨g, cap, cur, rfl, hbg, hg, hnc, hcm, hcs', htake⟩⟩ := hrow
  · obtain ⟨i0, hi, hz0, hz1, hz2⟩ := info_parts Nd.infoE
    have hnil : news = [] := List.eq_nil_of_length_eq_zero h0
    refine wpList_append_own_none hgd s x 22 ho lo 5 i0 1 Tryd.underlying22 hi v l.length _ hs hown hx ?_
    refine h v w ?_ ⟨rfl, rfl, rfl, Nat.le_refl _, fun _ _ _ => rfl⟩ (.inl rfl)
    rw [hnil, List.append_nil]
    exact hown
  · exact wpList_add hgd s x ho lo v l news hs hown ⟨g, 0, none⟩ news.length cap hx rfl (fun j hj => by rw [Addr.add_lit]; exact hrow'.cell rfl j hj) hsz hlo h
end Go.Proofs.YtocbbekciphjgaaDoor.Sc
