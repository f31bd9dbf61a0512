/- What was scanned is told (impl.scanned); the buffer is filled (cache, ZzCache); an anchor is scanned (ZzScanAnchor): the walks. Printed by genAnF.py. -/
import Derived.Test.YtocbbekciphjgaaDoorTkB
import Derived.Test.YtocbbekciphjgaaDoorAnE
namespace Go.Proofs.YtocbbekciphjgaaDoor.Sc
open Go.RowKit Go.Proofs.YtocbbekciphjgaaDoor.Rdp Go.Proofs.YtocbbekciphjgaaDoor.Pa
set_option linter.unusedVariables false
set_option linter.unusedSimpArgs false
set_option maxHeartbeats 4000000 in
set_option maxRecDepth 100000 in
theorem scanned_ok (vp : Value) (t : Nat) (ty s0 s1 s2 e0 e1 e2 en : Int) (v1 v2 v3 : Value) (sy ma mi : Int) (l1 l2 l3 : List Int) (w0 : World) (h : Bk w0 t 78 (tok ty s0 s1 s2 e0 e1 e2 en v1 v2 v3 sy ma mi)) (h1 : Tx w0 v1 l1) (h2 : Tx w0 v2 l2) (h3 : Tx w0 v3 l3) (hsy : IntKind.i64.wrap sy = sy) (hma : IntKind.i64.wrap ma = ma) (hmi : IntKind.i64.wrap mi = mi) :
    Calls Tryd.prog 38 #[vp, .pointer (some ⟨t, 0, none⟩), .bool true] w0 fun e w' => e = .returned (.tuple #[.agg (full ty s0 s1 s2 e0 e1 e2 en l1 l2 l3 sy ma mi).toArray, .agg (nine 0 0 0 0 0 0 0 0 0).toArray]) ∧ Below w0.heap.size w0 w' := by
  obtain ⟨wa, HWA⟩ : ∃ wa : World, Hid (((w0.alloc (.cells (full 0 0 0 0 0 0 0 0 [] [] [] 0 0 0).toArray 37)).alloc (.cells (nine 0 0 0 0 0 0 0 0 0).toArray 31)) = wa) := ⟨_, rfl⟩
  have hb6 : Bk wa w0.heap.size 37 (full 0 0 0 0 0 0 0 0 [] [] [] 0 0 0) := by rw [← HWA.out]; exact (Bk.new _ _ _).alloc _
  have hb7 : Bk wa (w0.heap.size + 1) 31 (nine 0 0 0 0 0 0 0 0 0) := by
    have := Bk.new (w0.alloc (.cells (full 0 0 0 0 0 0 0 0 [] [] [] 0 0 0).toArray 37)) (nine 0 0 0 0 0 0 0 0 0) 31
    simp only [World.size_alloc] at this
    rw [← HWA.out]
    exact this
  have hb0 : Below w0.heap.size w0 wa := by rw [← HWA.out]; exact ((Below.refl _ _).alloc (Nat.le_refl _) _).alloc (by simp) _
  have ht : Bk wa t 78 (tok ty s0 s1 s2 e0 e1 e2 en v1 v2 v3 sy ma mi) := by rw [← HWA.out]; exact (h.alloc _).alloc _
  have hsz : wa.heap.size = w0.heap.size + 2 := by rw [← HWA.out]; simp
  have HB6 := Lib.hid hb6
  have HB7 := Lib.hid hb7
  have HB0 := Lib.hid hb0
  have HT := Lib.hid ht
  have H1 := Lib.hid (h1.below hb0)
  have H2 := Lib.hid (h2.below hb0)
  have H3 := Lib.hid (h3.below hb0)
  clear h hb6 hb7 hb0 ht h1 h2 h3
  go_enter Tryd.func38, Tryd.ntmps38
  go_upto_region 1 with fail
  rw [show (w0.alloc (.cells #[.int .i64 0, .int .i64 0, .int .i64 0, .int .i64 0, .int .i64 0, .int .i64 0, .int .i64 0, .string ⟨#[]⟩, .string ⟨#[]⟩, .string ⟨#[]⟩, .int .i64 0, .int .i64 0, .int .i64 0, .int .i64 0] 37)).alloc (.cells #[.int .i64 0, .int .i64 0, .int .i64 0, .int .i64 0, .int .i64 0, .int .i64 0, .int .i64 0, .int .i64 0, .int .i64 0] 31) = wa from HWA.out]
  go_wp2_with fail
  refine (token_any t ty s0 s1 s2 e0 e1 e2 en v1 v2 v3 sy ma mi l1 l2 l3 wa HT.out H1.out H2.out H3.out hsy hma hmi).mono ?_
  rintro e w1 ⟨rfl, hb1⟩
  have hk1 : Kp [] wa w1 := Kp.of_below hb1
  have h6 := HB6.out.kp hk1 (by simp)
  have h7 := HB7.out.kp hk1 (by simp)
  have HBF := Lib.hid (HB0.out.trans (hb1.mono (by omega)))
  obtain ⟨e0, f0⟩ := at_ h6 0 rfl
  obtain ⟨e1, f1⟩ := at_ h6 1 rfl
  obtain ⟨e2, f2⟩ := at_ h6 2 rfl
  obtain ⟨e3, f3⟩ := at_ h6 3 rfl
  obtain ⟨e4, f4⟩ := at_ h6 4 rfl
  obtain ⟨e5, f5⟩ := at_ h6 5 rfl
  obtain ⟨e6, f6⟩ := at_ h6 6 rfl
  obtain ⟨e7, f7⟩ := at_ h6 7 rfl
  obtain ⟨e8, f8⟩ := at_ h6 8 rfl
  obtain ⟨e9, f9⟩ := at_ h6 9 rfl
  obtain ⟨e10, f10⟩ := at_ h6 10 rfl
  obtain ⟨e11, f11⟩ := at_ h6 11 rfl
  obtain ⟨e12, f12⟩ := at_ h6 12 rfl
  obtain ⟨e13, f13⟩ := at_ h6 13 rfl
  obtain ⟨c0, g0⟩ := at_ h7 0 rfl
  obtain ⟨c1, g1⟩ := at_ h7 1 rfl
  obtain ⟨c2, g2⟩ := at_ h7 2 rfl
  obtain ⟨c3, g3⟩ := at_ h7 3 rfl
  obtain ⟨c4, g4⟩ := at_ h7 4 rfl
  obtain ⟨c5, g5⟩ := at_ h7 5 rfl
  obtain ⟨c6, g6⟩ := at_ h7 6 rfl
  obtain ⟨c7, g7⟩ := at_ h7 7 rfl
  obtain ⟨c8, g8⟩ := at_ h7 8 rfl
  have H6 := Lib.hid h6
  have H7 := Lib.hid h7
  clear h6 h7 hb1 hk1 HB6 HB7 HB0 HT H1 H2 H3 HWA
  unfold full
  go_wp2_with fail
  clear e0 e1 e2 e3 e4 e5 e6 e7 e8 e9 e10 e11 e12 e13 f0 f1 f2 f3 f4 f5 f6 f7 f8 f9 f10 f11 f12 f13 c0 c1 c2 c3 c4 c5 c6 c7 c8 g0 g1 g2 g3 g4 g5 g6 g7 g8
  have ne1 : w0.heap.size ≠ w0.heap.size + 1 := by omega
  have ne2 : w0.heap.size + 1 ≠ w0.heap.size := by omega
  have h4 := (((((((((((((((((((((((H6.out.set 0 (.int .i64 ty)).set 1 (.int .i64 s0)).set 2 (.int .i64 s1)).set 3 (.int .i64 s2)).set 4 (.int .i64 e0)).set 5 (.int .i64 e1)).set 6 (.int .i64 e2)).set 7 (.string (strOfNums l1))).set 8 (.string (strOfNums l2))).set 9 (.string (strOfNums l3))).set 10 (.int .i64 (sty sy))).set 11 (.int .i64 en)).set 12 (.int .i64 ma)).set 13 (.int .i64 mi)).other (w0.heap.size + 1) 0 (.int .i64 0) ne1).other (w0.heap.size + 1) 1 (.int .i64 0) ne1).other (w0.heap.size + 1) 2 (.int .i64 0) ne1).other (w0.heap.size + 1) 3 (.int .i64 0) ne1).other (w0.heap.size + 1) 4 (.int .i64 0) ne1).other (w0.heap.size + 1) 5 (.int .i64 0) ne1).other (w0.heap.size + 1) 6 (.int .i64 0) ne1).other (w0.heap.size + 1) 7 (.int .i64 0) ne1).other (w0.heap.size + 1) 8 (.int .i64 0) ne1)
  have h5 := (((((((((((((((((((((((H7.out.other w0.heap.size 0 (.int .i64 ty) ne2).other w0.heap.size 1 (.int .i64 s0) ne2).other w0.heap.size 2 (.int .i64 s1) ne2).other w0.heap.size 3 (.int .i64 s2) ne2).other w0.heap.size 4 (.int .i64 e0) ne2).other w0.heap.size 5 (.int .i64 e1) ne2).other w0.heap.size 6 (.int .i64 e2) ne2).other w0.heap.size 7 (.string (strOfNums l1)) ne2).other w0.heap.size 8 (.string (strOfNums l2)) ne2).other w0.heap.size 9 (.string (strOfNums l3)) ne2).other w0.heap.size 10 (.int .i64 (sty sy)) ne2).other w0.heap.size 11 (.int .i64 en) ne2).other w0.heap.size 12 (.int .i64 ma) ne2).other w0.heap.size 13 (.int .i64 mi) ne2).set 0 (.int .i64 0)).set 1 (.int .i64 0)).set 2 (.int .i64 0)).set 3 (.int .i64 0)).set 4 (.int .i64 0)).set 5 (.int .i64 0)).set 6 (.int .i64 0)).set 7 (.int .i64 0)).set 8 (.int .i64 0))
  have hbf := (((((((((((((((((((((((HBF.out.setCell (p := ⟨w0.heap.size, 0, none⟩) (by simp) (.int .i64 ty)).setCell (p := ⟨w0.heap.size, 1, none⟩) (by simp) (.int .i64 s0)).setCell (p := ⟨w0.heap.size, 2, none⟩) (by simp) (.int .i64 s1)).setCell (p := ⟨w0.heap.size, 3, none⟩) (by simp) (.int .i64 s2)).setCell (p := ⟨w0.heap.size, 4, none⟩) (by simp) (.int .i64 e0)).setCell (p := ⟨w0.heap.size, 5, none⟩) (by simp) (.int .i64 e1)).setCell (p := ⟨w0.heap.size, 6, none⟩) (by simp) (.int .i64 e2)).setCell (p := ⟨w0.heap.size, 7, none⟩) (by simp) (.string (strOfNums l1))).setCell (p := ⟨w0.heap.size, 8, none⟩) (by simp) (.string (strOfNums l2))).setCell (p := ⟨w0.heap.size, 9, none⟩) (by simp) (.string (strOfNums l3))).setCell (p := ⟨w0.heap.size, 10, none⟩) (by simp) (.int .i64 (sty sy))).setCell (p := ⟨w0.heap.size, 11, none⟩) (by simp) (.int .i64 en)).setCell (p := ⟨w0.heap.size, 12, none⟩) (by simp) (.int .i64 ma)).setCell (p := ⟨w0.heap.size, 13, none⟩) (by simp) (.int .i64 mi)).setCell (p := ⟨(w0.heap.size + 1), 0, none⟩) (by simp) (.int .i64 0)).setCell (p := ⟨(w0.heap.size + 1), 1, none⟩) (by simp) (.int .i64 0)).setCell (p := ⟨(w0.heap.size + 1), 2, none⟩) (by simp) (.int .i64 0)).setCell (p := ⟨(w0.heap.size + 1), 3, none⟩) (by simp) (.int .i64 0)).setCell (p := ⟨(w0.heap.size + 1), 4, none⟩) (by simp) (.int .i64 0)).setCell (p := ⟨(w0.heap.size + 1), 5, none⟩) (by simp) (.int .i64 0)).setCell (p := ⟨(w0.heap.size + 1), 6, none⟩) (by simp) (.int .i64 0)).setCell (p := ⟨(w0.heap.size + 1), 7, none⟩) (by simp) (.int .i64 0)).setCell (p := ⟨(w0.heap.size + 1), 8, none⟩) (by simp) (.int .i64 0))
  have e0 := at_ h4 0 rfl
  have e1 := at_ h4 1 rfl
  have e2 := at_ h4 2 rfl
  have e3 := at_ h4 3 rfl
  have e4 := at_ h4 4 rfl
  have e5 := at_ h4 5 rfl
  have e6 := at_ h4 6 rfl
  have e7 := at_ h4 7 rfl
  have e8 := at_ h4 8 rfl
  have e9 := at_ h4 9 rfl
  have e10 := at_ h4 10 rfl
  have e11 := at_ h4 11 rfl
  have e12 := at_ h4 12 rfl
  have e13 := at_ h4 13 rfl
  have c0 := at_ h5 0 rfl
  have c1 := at_ h5 1 rfl
  have c2 := at_ h5 2 rfl
  have c3 := at_ h5 3 rfl
  have c4 := at_ h5 4 rfl
  have c5 := at_ h5 5 rfl
  have c6 := at_ h5 6 rfl
  have c7 := at_ h5 7 rfl
  have c8 := at_ h5 8 rfl
  (try simp only [Exit.inBlock, Exit.then])
  refine bodyPost_ret (by simp [results, Tryd.results38, e0.1, e1.1, e2.1, e3.1, e4.1, e5.1, e6.1, e7.1, e8.1, e9.1, e10.1, e11.1, e12.1, e13.1, c0.1, c1.1, c2.1, c3.1, c4.1, c5.1, c6.1, c7.1, c8.1, go_sem]; try rfl) rfl ?_
  exact ⟨rfl, hbf⟩
set_option maxHeartbeats 2000000 in
theorem cache_any (k : Kn) (p c u bp bl n : Nat) (L : List Value) (w : World) (hr : RoundOk k p) (h : Rdr k p c u bp bl L w) (hn : 1 ≤ n) (hn8 : n ≤ 8) (hg : 2 < w.heap.size) :
    Calls Tryd.prog 69 #[.pointer (some ⟨p, 0, none⟩), .int .i64 n] w fun e w' => e = .returned (.bool true) ∧ Upd k p c u n L w w' := by
  obtain ⟨c18, f18⟩ := at_ h.pb 18 h.at18
  have H := Lib.hid h
  have HR := Lib.hid hr
  clear h hr
  by_cases hu : n ≤ u
  · have e1 : decide ((n : Int) ≤ (u : Int)) = true := by simp; omega
    have e2 : decide (n ≤ u) = true := by simp; omega
    have HU := Lib.hid hu
    clear hu
    go_enter Tryd.func69, Tryd.ntmps69
    go_wp2_with fail
    go_ret
    exact ⟨rfl, upd_same H.out hn HU.out 0⟩
  · have e1 : decide ((n : Int) ≤ (u : Int)) = false := by simp; omega
    have e2 : decide (n ≤ u) = false := by simp; omega
    have HU := Lib.hid hu
    clear hu
    go_enter Tryd.func69, Tryd.ntmps69
    go_wp2_with fail
    refine (ub_any k p c u bp bl n L w HR.out H.out hn hn8 hg).mono ?_
    rintro e w1 ⟨rfl, hupd⟩
    have HUP := Lib.hid hupd
    clear hupd
    go_wp2_with fail
    go_ret
    exact ⟨rfl, HUP.out⟩
set_option maxHeartbeats 2000000 in
theorem zcache_any (k : Kn) (p c u bp bl n : Nat) (L : List Value) (w : World) (hr : RoundOk k p) (h : Rdr k p c u bp bl L w) (hn : 1 ≤ n) (hn8 : n ≤ 8) (hg : 2 < w.heap.size) :
    Calls Tryd.prog 39 #[.pointer (some ⟨p, 0, none⟩), .int .i64 n] w fun e w' => e = .returned (.bool true) ∧ Upd k p c u n L w w' := by
  have H := Lib.hid h
  have HR := Lib.hid hr
  clear h hr
  go_enter Tryd.func39, Tryd.ntmps39
  go_wp2_with fail
  refine (cache_any k p c u bp bl n L w HR.out H.out hn hn8 hg).mono ?_
  rintro e w1 ⟨rfl, hupd⟩
  have HUP := Lib.hid hupd
  clear hupd
  go_wp2_with fail
  go_ret
  exact ⟨rfl, HUP.out⟩
set_option maxHeartbeats 2000000 in
theorem zanchor_any (vp vt : Value) (kd : Int) (b : Bool) (w : World) (Q : World → Prop) (hc : Calls Tryd.prog 70 #[vp, vt, .int .i64 kd] w fun e w' => e = .returned (.bool b) ∧ Q w') :
    Calls Tryd.prog 40 #[vp, vt, .int .i64 kd] w fun e w' => e = .returned (.bool b) ∧ Q w' := by
  have HC := Lib.hid hc
  clear hc
  go_enter Tryd.func40, Tryd.ntmps40
  go_wp2_with fail
  refine HC.out.mono ?_
  rintro e w1 ⟨rfl, hq⟩
  have HQ := Lib.hid hq
  clear hq
  go_wp2_with fail
  go_ret
  exact ⟨rfl, HQ.out⟩
end Go.Proofs.YtocbbekciphjgaaDoor.Sc
