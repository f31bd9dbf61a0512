/- The thin package's analysis of a scalar (ZzAnalyzeScalar, ZzAnalysis): walked. -/
import Derived.Test.YtcmnjnogdpejfaaDoorLnK
namespace Go.Proofs.YtcmnjnogdpejfaaDoor.Ln
open Go.RowKit
set_option linter.unusedVariables false
set_option linter.unusedSimpArgs false
theorem run_nil {s : ByteArray} {l : List Int} (h : Run s 0 l) (hs : s.size = 0) : l = [] := run_end h hs.symm
theorem scal_both (p b cp : Nat) (u : Bool) (s : ByteArray) (l : List Int) (w : World) (hm : s.size ≤ 70000) (hpb : p ≠ b) (hth : w.there p 0 55) (hfl : Scd p w) (hu : w.cell? ⟨p, 13, none⟩ = some (.bool u)) (hc : Cells w b s) (hr : Run s 0 l) (hcl : l.all cl = true) :
    Calls Tryd.prog 23 #[.pointer (some ⟨p, 0, none⟩), .slice (some ⟨b, 0, none⟩) s.size cp] w fun e w' => e = .returned (.bool true) ∧ Aft p (l.any (· == 10)) w w' := by
  by_cases h : s.size = 0
  · have := run_nil hr h
    subst this
    rw [h]
    exact scal_nil p cp _ w hth hfl
  · exact scal_any p b cp u s l w hm (by omega) hpb hth hfl hu hc hr hcl
set_option maxHeartbeats 4000000 in
theorem zz_any (p b cp : Nat) (u : Bool) (s : ByteArray) (l : List Int) (w : World) (hm : s.size ≤ 70000) (hpb : p ≠ b) (hth : w.there p 0 55) (hfl : Scd p w) (hu : w.cell? ⟨p, 13, none⟩ = some (.bool u)) (hc : Cells w b s) (hr : Run s 0 l) (hcl : l.all cl = true) :
    Calls Tryd.prog 10 #[.pointer (some ⟨p, 0, none⟩), .slice (some ⟨b, 0, none⟩) s.size cp] w fun e w' => e = .returned (.bool true) ∧ Aft p (l.any (· == 10)) w w' := by
  have HS := Lib.hid (scal_both p b cp u s l w hm hpb hth hfl hu hc hr hcl)
  clear hth hfl hu hc hr hcl
  go_enter Tryd.func10, Tryd.ntmps10
  go_wp2_with fail
  refine HS.out.mono ?_
  rintro e w1 ⟨rfl, hA⟩
  go_wp2_with fail
  go_ret
  exact ⟨rfl, hA⟩
theorem results_tmp5 {fn : Func} {t u v x y : Tmp} (h : fn.results = #[.tmp t, .tmp u, .tmp v, .tmp x, .tmp y]) (tmps : Array Value) (P : Program) (w : World) :
    (results fn tmps).run P w = .ok (.tuple #[tmps.getD t undef, tmps.getD u undef, tmps.getD v undef, tmps.getD x undef, tmps.getD y undef]) w := by
  simp [results, h]
/-- What an analysis gives: the first mark is this one. -/
def Five (M : Bool) (w : World) (e : Ending) (w' : World) : Prop := ∃ v1 v2 v3 v4 : Bool, e = .returned (.tuple #[.bool M, .bool v1, .bool v2, .bool v3, .bool v4]) ∧ Below w.heap.size w w'
set_option maxHeartbeats 4000000 in
set_option maxRecDepth 100000 in
theorem five_any (p : Nat) (M : Bool) (w : World) (hfl : Scd p w) (h39 : w.cell? ⟨p, 39, none⟩ = some (.bool M)) :
    Calls Tryd.prog 11 #[.pointer (some ⟨p, 0, none⟩)] w (Five M w) := by
  obtain ⟨c40, hc40⟩ := hfl 40 (by decide) (by decide)
  obtain ⟨c41, hc41⟩ := hfl 41 (by decide) (by decide)
  obtain ⟨c42, hc42⟩ := hfl 42 (by decide) (by decide)
  obtain ⟨c43, hc43⟩ := hfl 43 (by decide) (by decide)
  clear hfl
  go_enter Tryd.func11, Tryd.ntmps11
  try simp only [List.append]
  go_wp2_with fail
  go_quiet (fail)
  go_wp2_with fail
  refine bodyPost_ret (results_tmp5 rfl _ _ _) rfl ?_
  exact ⟨c40, c41, c42, c43, rfl, (Below.refl _ _).trans ⟨rfl, rfl, rfl, Nat.le_refl _, fun _ _ => rfl⟩⟩
set_option maxHeartbeats 4000000 in
set_option maxRecDepth 100000 in
theorem impl_any (b cp : Nat) (u : Bool) (s : ByteArray) (l : List Int) (w : World) (hm : s.size ≤ 70000) (hb : b < w.heap.size) (hc : Cells w b s) (hr : Run s 0 l) (hcl : l.all cl = true) :
    Calls Tryd.prog 5 #[.slice (some ⟨b, 0, none⟩) s.size cp, .bool u] w fun e w' => (∃ v1 v2 v3 v4 : Bool, e = .returned (.agg #[.bool (l.any (· == 10)), .bool v1, .bool v2, .bool v3, .bool v4])) ∧ Below w.heap.size w w' := by
  obtain ⟨M, HM⟩ : ∃ M, Hid (l.any (· == 10) = M) := ⟨_, rfl⟩
  obtain ⟨n, HN⟩ : ∃ n, Hid (s.size = n) := ⟨_, rfl⟩
  rw [HM.out, HN.out]
  have HR := Lib.hid hr
  have HCL := Lib.hid hcl
  have HC := Lib.hid hc
  have HB := Lib.hid hb
  have HSM := Lib.hid hm
  clear hr hcl hc hb hm
  go_enter Tryd.func5, Tryd.ntmps5
  try simp only [List.append]
  go_wp2_with fail
  obtain ⟨nb, HNB⟩ : ∃ nb, Hid (w.heap.size = nb) := ⟨_, rfl⟩
  obtain ⟨w1, HW1⟩ : ∃ w1 : World, Hid ((w.alloc (Obj.cells #[Value.bool false, Value.bool false, Value.bool false, Value.bool false, Value.bool false] 24)).alloc (Obj.cells #[Value.slice none 0 0] 26) = w1) := ⟨_, rfl⟩
  have hk1 : Below nb w w1 := by rw [← HNB.out, ← HW1.out]; exact ((Below.refl _ _).alloc (Nat.le_refl _) _).alloc (by simp) _
  have hs1 : w1.heap.size = nb + 2 := by rw [← HNB.out, ← HW1.out]; simp
  have hbk1 : Bk w1 nb 24 [.bool false, .bool false, .bool false, .bool false, .bool false] := by
    rw [← HNB.out, ← HW1.out]
    exact (Bk.new w _ 24).alloc _
  rw [HW1.out, HNB.out]
  refine (Em.emitter_any u (nb + 1) w1).mono ?_
  rintro e w2 ⟨p, rfl, hp1, hp2, hth, -, h13, -, -, -, ⟨h40, h41, h42, h43⟩, hb2⟩
  rw [HNB.out] at HB
  have hc2 : Cells w2 b s := fun j hj => by
    rw [(hk1.trans (hb2.mono (by omega))).cell (p := ⟨b, j, none⟩) HB.out]
    exact HC.out j hj
  have hbb := HB.out
  have hfl2 : Scd p w2 := fun k k1 k2 => by
    have : k = 40 ∨ k = 41 ∨ k = 42 ∨ k = 43 := by omega
    rcases this with rfl | rfl | rfl | rfl
    · exact ⟨_, h40⟩
    · exact ⟨_, h41⟩
    · exact ⟨_, h42⟩
    · exact ⟨_, h43⟩
  have hz := zz_any p b cp u s l w2 HSM.out (by omega) hth hfl2 h13 hc2 HR.out HCL.out
  rw [HM.out, HN.out] at hz
  have hbk2 := hbk1.kp (Kp.of_below (ps := []) hb2) (by simp)
  have HZ := Lib.hid hz
  have HB2 := Lib.hid hb2
  have HBK2 := Lib.hid hbk2
  have HK1 := Lib.hid hk1
  clear hz hth h13 h40 h41 h42 h43 hfl2 hc2 hb2 hbk2 hbk1 hk1
  go_wp2_with fail
  refine HZ.out.mono ?_
  rintro e w3 ⟨rfl, hA⟩
  have hs3 : p < w3.heap.size := by have := hA.ext.size; omega
  have hbk3 : Bk w3 nb 24 [.bool false, .bool false, .bool false, .bool false, .bool false] := (hA.ext.block nb (by omega) (by omega)).trans HBK2.out
  have hbw3 : Below nb w w3 := by
    have h2 := HK1.out.trans (HB2.out.mono (by omega))
    have h3 := HB2.out.size
    exact h2.trans ⟨hA.ext.os, hA.ext.tape, hA.ext.output, hA.ext.size, fun k hk => hA.ext.block k (by omega) (by omega)⟩
  obtain ⟨n3, HN3⟩ : ∃ n3, Hid (w3.heap.size = n3) := ⟨_, rfl⟩
  obtain ⟨w4, HW4⟩ : ∃ w4 : World, Hid (w3.alloc (Obj.cells #[Value.bool false, Value.bool false, Value.bool false, Value.bool false, Value.bool false] 24) = w4) := ⟨_, rfl⟩
  have hs4 : w4.heap.size = n3 + 1 := by rw [← HN3.out, ← HW4.out]; simp
  have hbl4 : Below n3 w3 w4 := by rw [← HN3.out, ← HW4.out]; exact (Below.refl _ _).alloc (Nat.le_refl _) _
  have hbk4 : Bk w4 n3 24 [.bool false, .bool false, .bool false, .bool false, .bool false] := by
    rw [← HN3.out, ← HW4.out]
    exact Bk.new w3 _ 24
  have hn3 : nb + 2 ≤ n3 := by rw [← HN3.out]; have := HB2.out.size; omega
  rw [HN3.out] at hs3
  have hbo4 : Bk w4 nb 24 [.bool false, .bool false, .bool false, .bool false, .bool false] := (hbl4.block nb (by omega)).trans hbk3
  have ht4 : Scd p w4 := fun k k1 k2 => by
    obtain ⟨x, hx⟩ := hA.fl k k1 k2
    exact ⟨x, (hbl4.cell (p := ⟨p, k, none⟩) hs3).trans hx⟩
  have h39 : w4.cell? ⟨p, 39, none⟩ = some (.bool M) := (hbl4.cell (p := ⟨p, 39, none⟩) hs3).trans hA.c39
  have hbw4 : Below nb w w4 := hbw3.trans (hbl4.mono (by omega))
  have hf := five_any p M w4 ht4 h39
  have HF := Lib.hid hf
  have HBK4 := Lib.hid hbk4
  have HBO4 := Lib.hid hbo4
  have HBW4 := Lib.hid hbw4
  clear hf hbk4 hbo4 hbw4 ht4 h39 hbl4 hbw3 hbk3 hA
  go_wp2_with fail
  rw [HW4.out, HN3.out]
  refine HF.out.mono ?_
  rintro e w5 ⟨v1, v2, v3, v4, rfl, hb5⟩
  have hb6 := HBK4.out.kp (Kp.of_below (ps := []) hb5) (by simp)
  have ho6 := HBO4.out.kp (Kp.of_below (ps := []) hb5) (by simp)
  have hw5 : Below nb w w5 := HBW4.out.trans (hb5.mono (by omega))
  obtain ⟨q0, k0⟩ := at_ hb6 0 rfl
  obtain ⟨r0, l0⟩ := at_ ho6 0 rfl
  obtain ⟨q1, k1⟩ := at_ hb6 1 rfl
  obtain ⟨r1, l1⟩ := at_ ho6 1 rfl
  obtain ⟨q2, k2⟩ := at_ hb6 2 rfl
  obtain ⟨r2, l2⟩ := at_ ho6 2 rfl
  obtain ⟨q3, k3⟩ := at_ hb6 3 rfl
  obtain ⟨r3, l3⟩ := at_ ho6 3 rfl
  obtain ⟨q4, k4⟩ := at_ hb6 4 rfl
  obtain ⟨r4, l4⟩ := at_ ho6 4 rfl
  have hne : n3 ≠ nb := by omega
  have HW5 := Lib.hid hw5
  have HB6 := Lib.hid hb6
  have HO6 := Lib.hid ho6
  clear hb5 hb6 ho6 hw5 r0 l0 r1 l1 r2 l2 r3 l3 r4 l4
  go_upto_region 5 with fail
  obtain ⟨w6, HW6⟩ : ∃ w6 : World, Hid ((((((w5.setCell ⟨n3, 0, none⟩ (.bool M)).setCell ⟨n3, 1, none⟩ (.bool v1)).setCell ⟨n3, 2, none⟩ (.bool v2)).setCell ⟨n3, 3, none⟩ (.bool v3)).setCell ⟨n3, 4, none⟩ (.bool v4)) = w6) := ⟨_, rfl⟩
  rw [HW6.out]
  have hb7 : Bk w6 n3 24 [.bool M, .bool v1, .bool v2, .bool v3, .bool v4] := by rw [← HW6.out]; exact (((((HB6.out.set 0 _).set 1 _).set 2 _).set 3 _).set 4 _)
  have ho7 : Bk w6 nb 24 [.bool false, .bool false, .bool false, .bool false, .bool false] := by rw [← HW6.out]; exact (((((HO6.out.other n3 0 _ (by omega)).other n3 1 _ (by omega)).other n3 2 _ (by omega)).other n3 3 _ (by omega)).other n3 4 _ (by omega))
  have hw6 : Below nb w w6 := by rw [← HW6.out]; exact (((((HW5.out.setCell (by show nb ≤ n3; omega) _).setCell (by show nb ≤ n3; omega) _).setCell (by show nb ≤ n3; omega) _).setCell (by show nb ≤ n3; omega) _).setCell (by show nb ≤ n3; omega) _)
  have HW6' := Lib.hid hw6
  clear q0 k0 q1 k1 q2 k2 q3 k3 q4 k4 HW6 hw6 HB6 HO6
  obtain ⟨q0, k0⟩ := at_ hb7 0 rfl
  obtain ⟨r0, l0⟩ := at_ ho7 0 rfl
  obtain ⟨q1, k1⟩ := at_ hb7 1 rfl
  obtain ⟨r1, l1⟩ := at_ ho7 1 rfl
  obtain ⟨q2, k2⟩ := at_ hb7 2 rfl
  obtain ⟨r2, l2⟩ := at_ ho7 2 rfl
  obtain ⟨q3, k3⟩ := at_ hb7 3 rfl
  obtain ⟨r3, l3⟩ := at_ ho7 3 rfl
  obtain ⟨q4, k4⟩ := at_ hb7 4 rfl
  obtain ⟨r4, l4⟩ := at_ ho7 4 rfl
  have HO7 := Lib.hid ho7
  clear hb7 ho7
  go_wp2_with fail
  obtain ⟨w7, HW7⟩ : ∃ w7 : World, Hid ((((((w6.setCell ⟨nb, 0, none⟩ (.bool M)).setCell ⟨nb, 1, none⟩ (.bool v1)).setCell ⟨nb, 2, none⟩ (.bool v2)).setCell ⟨nb, 3, none⟩ (.bool v3)).setCell ⟨nb, 4, none⟩ (.bool v4)) = w7) := ⟨_, rfl⟩
  rw [HW7.out]
  have hb8 : Bk w7 nb 24 [.bool M, .bool v1, .bool v2, .bool v3, .bool v4] := by rw [← HW7.out]; exact (((((HO7.out.set 0 _).set 1 _).set 2 _).set 3 _).set 4 _)
  have hw7 : Below nb w w7 := by rw [← HW7.out]; exact (((((HW6'.out.setCell (Nat.le_refl _) _).setCell (Nat.le_refl _) _).setCell (Nat.le_refl _) _).setCell (Nat.le_refl _) _).setCell (Nat.le_refl _) _)
  clear q0 k0 r0 l0 q1 k1 r1 l1 q2 k2 r2 l2 q3 k3 r3 l3 q4 k4 r4 l4
  obtain ⟨r0, l0⟩ := at_ hb8 0 rfl
  obtain ⟨r1, l1⟩ := at_ hb8 1 rfl
  obtain ⟨r2, l2⟩ := at_ hb8 2 rfl
  obtain ⟨r3, l3⟩ := at_ hb8 3 rfl
  obtain ⟨r4, l4⟩ := at_ hb8 4 rfl
  refine bodyPost_ret (v := .agg #[.bool M, .bool v1, .bool v2, .bool v3, .bool v4]) (by simp [results, Tryd.results5, r0, r1, r2, r3, r4, go_sem]) rfl ?_
  exact ⟨⟨v1, v2, v3, v4, rfl⟩, by rw [HNB.out]; exact hw7⟩
end Go.Proofs.YtcmnjnogdpejfaaDoor.Ln
