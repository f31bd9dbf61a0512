/- A letter is read (read), where the slice has room: the walk. -/
import Derived.Test.YtocbbekciphjgaaDoorAnA
import Derived.Test.YtocbbekciphjgaaDoorScC
namespace Go.Proofs.YtocbbekciphjgaaDoor.Sc
open Go.RowKit Go.Proofs.YtocbbekciphjgaaDoor.Rdp Go.Proofs.YtocbbekciphjgaaDoor.Pa
set_option linter.unusedVariables false
set_option linter.unusedSimpArgs false
set_option maxHeartbeats 4000000 in
set_option maxRecDepth 100000 in
theorem read_room (k : Kn) (p c u bp bl mi mc g n : Nat) (z x : Int) (L G : List Value) (w : World) (h : Rdr k p c (u + 1) bp bl L w) (h24 : L[24]? = some (.int .i64 (mi : Nat))) (h26 : L[26]? = some (.int .i64 (mc : Nat))) (h19 : L[19]? = some (.int .i64 z)) (hmi : mi ≤ 1000000000000) (hmc : mc ≤ 1000000000000) (hu : u ≤ 1000000)
    (hS : S k.T c = x) (hx0 : 33 ≤ x) (hx1 : x < 128) (hg : Bk w g 5 G) (hgl : G.length = 32) (hn0 : 1 ≤ n) (hn : n < 32) (hf : Far k p g) (v0 : Int) (hv0 : G[n]? = some (.int .u8 v0)) :
    Calls Tryd.prog 109 #[.pointer (some ⟨p, 0, none⟩), .slice (some ⟨g, 0, none⟩) n 32] w fun e w' => e = .returned (.slice (some ⟨g, 0, none⟩) (n + 1) 32) ∧ (∃ L', Rdr k p (c + 1) u (bp + 1) bl L' w' ∧ L'[24]? = some (.int .i64 (mi + 1 : Nat)) ∧ L'[26]? = some (.int .i64 (mc + 1 : Nat)) ∧ (∃ z, L'[19]? = some (.int .i64 z)) ∧ (∀ j, j ≠ 17 → j ≠ 18 → j ≠ 19 → j ≠ 24 → j ≠ 26 → L'[j]? = L[j]?)) ∧ Bk w' g 5 (G.set n (.int .u8 x)) ∧ Kp [p, g] w w' := by
  have hrd := h.ready 1 (by omega)
  have hsm := h.small
  have hge := adv_ge k.T c 1
  have hby := h.byte 0 (by omega)
  rw [Nat.add_zero, Nat.add_zero, hS] at hby
  obtain ⟨c16, f16⟩ := at_ h.pb 16 h.at16
  obtain ⟨c17, f17⟩ := at_ h.pb 17 h.at17
  obtain ⟨c18, f18⟩ := at_ h.pb 18 h.at18
  obtain ⟨c19, f19⟩ := at_ h.pb 19 h19
  obtain ⟨c24, f24⟩ := at_ h.pb 24 h24
  obtain ⟨c26, f26⟩ := at_ h.pb 26 h26
  obtain ⟨cg, fg⟩ := at_ hg n hv0
  have hb0 : isBlank x = false := by unfold isBlank; rw [Bool.or_eq_false_iff, beq_eq_false_iff_ne, beq_eq_false_iff_ne]; omega
  have hbl : ∀ N, Calls Tryd.prog 102 #[.slice (some ⟨k.q, 0, none⟩) bl 1536, .int .i64 bp] (w.drewN N) fun e w' => e = .returned (.bool false) ∧ w' = w.drewN N := fun N => by
    have := blank_any k.q bp bl 1536 x (w.drewN N) (by omega) (by omega) hby
    rw [hb0] at this
    exact this
  have hpq : ¬ p = k.q := h.ok.pq
  have hqp : ¬ k.q = p := Ne.symm h.ok.pq
  have hgp : ¬ g = p := fun e => hf.1 (by rw [e]; exact k.mp p)
  have hpg : ¬ p = g := fun e => hgp e.symm
  have hwd : ∀ W, Calls Tryd.prog 131 #[.int .u8 x] W fun e w' => e = .returned (.int .i64 1) ∧ w' = W := fun W => by
    have := Wd.wd_any x (by omega) (by omega) W
    rw [show Wd.wd x = 1 by unfold Wd.wd; rw [if_pos (by omega)]] at this
    exact this.mono fun _ _ h => ⟨h.1, h.2.symm⟩
  have HWD := Lib.hid hwd
  clear hwd
  have HBL := Lib.hid hbl
  have H := Lib.hid h
  have HG := Lib.hid hg
  have u1 : ((u + 1 : Nat) : Int) = (u : Int) + 1 := by omega
  rw [u1] at c18
  have j1 : (bp : Int) < (bl : Int) := by omega
  have j0 : (0 : Int) ≤ (bp : Int) := by omega
  have j2 : (bl : Int) ≤ 541 := by omega
  clear h hrd hbl u1 hge hb0 hg
  go_enter Tryd.func109, Tryd.ntmps109
  go_wp2_with fail
  go_quiet ((go_at_call 102; exact Calls.quiet_of_same (HBL.out _)))
  go_wp2_with fail
  obtain ⟨wb, HWB⟩ : ∃ wb : World, Hid ((w.drewN nq).setCell ⟨p, 19, none⟩ (.int .i64 0) = wb) := ⟨_, rfl⟩
  have hkb : Kp [p] w wb := by rw [← HWB.out]; exact ((Kp.refl _ _).drewN nq).setCell p 19 _ (by simp)
  have hbb : Bk wb p 120 (L.set 19 (.int .i64 0)) := by rw [← HWB.out]; exact (H.out.pb.drewN nq).set 19 _
  have hszb : wb.heap.size = w.heap.size := by rw [← HWB.out]; simp
  have hbyb : wb.cell? ⟨k.q, bp, none⟩ = some (.int .u8 x) := kp_cell hkb hby (by simp; exact hqp)
  have hgb2 : Bk wb g 5 G := HG.out.kp hkb (by simp; exact hgp)
  rw [HWB.out]
  have hrb := H.out.turn hbb (by simp only [List.length_set]; exact H.out.plen) hkb (fun j hj => lset_ne (by omega))
  have hpl := H.out.plen
  clear c16 f16 c17 f17 c18 f18 c19 f19 c24 f24 c26 f26 cg fg hby
  obtain ⟨c16, f16⟩ := at_ hrb.pb 16 hrb.at16
  obtain ⟨c17, f17⟩ := at_ hrb.pb 17 hrb.at17
  obtain ⟨c18, f18⟩ := at_ hrb.pb 18 hrb.at18
  obtain ⟨c24, f24⟩ := at_ hrb.pb 24 ((lset_ne (by omega)).trans h24)
  obtain ⟨c26, f26⟩ := at_ hrb.pb 26 ((lset_ne (by omega)).trans h26)
  obtain ⟨cg, fg⟩ := at_ hgb2 n hv0
  have u1 : ((u + 1 : Nat) : Int) = (u : Int) + 1 := by omega
  rw [u1] at c18
  have HRB := Lib.hid hrb
  have HKB := Lib.hid hkb
  have HGB := Lib.hid hgb2
  have n1 : ((n : Int) == 0) = false := by rw [beq_eq_false_iff_ne]; omega
  have n2 : decide ((n : Int) + 1 ≤ 32) = true := by simp; omega
  clear hrb hkb hgb2 hbb u1 HWB HBL HG H
  go_quiet ((go_at_call 131; exact Calls.quiet_of_same (HWD.out _)))
  go_wp2_with fail
  obtain ⟨wd, HWDD⟩ : ∃ wd : World, Hid (wb.drewN nq = wd) := ⟨_, rfl⟩
  rw [HWDD.out]
  have hr2 : Rdr k p c (u + 1) bp bl (L.set 19 (.int .i64 0)) wd := by rw [← HWDD.out]; exact HRB.out.drewN nq
  have hk2 : Kp [p] w wd := by rw [← HWDD.out]; exact HKB.out.drewN nq
  have hg2 : Bk wd g 5 G := by rw [← HWDD.out]; exact HGB.out
  have hby2 : wd.cell? ⟨k.q, bp, none⟩ = some (.int .u8 x) := by rw [← HWDD.out]; exact hbyb
  clear c16 f16 c17 f17 c18 f18 c24 f24 c26 f26 cg fg hbyb
  obtain ⟨c16, f16⟩ := at_ hr2.pb 16 hr2.at16
  obtain ⟨c17, f17⟩ := at_ hr2.pb 17 hr2.at17
  obtain ⟨c18, f18⟩ := at_ hr2.pb 18 hr2.at18
  obtain ⟨c24, f24⟩ := at_ hr2.pb 24 ((lset_ne (by omega)).trans h24)
  obtain ⟨c26, f26⟩ := at_ hr2.pb 26 ((lset_ne (by omega)).trans h26)
  obtain ⟨cg, fg⟩ := at_ hg2 n hv0
  have u1 : ((u + 1 : Nat) : Int) = (u : Int) + 1 := by omega
  rw [u1] at c18
  have HR2 := Lib.hid hr2
  have HK2 := Lib.hid hk2
  have HG2 := Lib.hid hg2
  have n3 : (n : Int) + 1 - 1 = (n : Int) := by omega
  have n4 : (n : Int) < (n : Int) + 1 := by omega
  have n5 : (n : Int) < ((n + 1 : Nat) : Int) := by omega
  have n6 : (0 : Int) ≤ (n : Int) := by omega
  have n7 : n < n + 1 := by omega
  clear hr2 hk2 hg2 u1 HWDD HRB HKB HGB
  refine wp_region_still_tail 14 (by kernel_rfl) (by kernel_rfl) ?_
  simp only [List.take_succ_cons, List.take_zero, List.drop_succ_cons, List.drop_zero]
  repeat still_step
  refine wpStill_nil ?_
  change wpList _ _ _ _ _ wd.drew
  go_wp2_with fail
  go_ret
  have hkg : Kp [g] wd (wd.setCell ⟨g, n, none⟩ (.int .u8 x)) := (Kp.refl _ _).setCell g n _ (by simp)
  have hrg := rdr_far HR2.out hkg (fun b hb => by simp at hb; subst hb; exact hf)
  have hgg := HG2.out.set n (.int .u8 x)
  generalize wd.setCell ⟨g, n, none⟩ (.int .u8 x) = wg at *
  have hb6 := (((hrg.pb.set 17 (.int .i64 ((bp : Int) + 1))).set 24 (.int .i64 ((mi : Int) + 1))).set 26 (.int .i64 ((mc : Int) + 1))).set 18 (.int .i64 (u : Int))
  have hk6 := ((((Kp.refl [p] wg).setCell p 17 (.int .i64 ((bp : Int) + 1)) (by simp)).setCell p 24 (.int .i64 ((mi : Int) + 1)) (by simp)).setCell p 26 (.int .i64 ((mc : Int) + 1)) (by simp)).setCell p 18 (.int .i64 (u : Int)) (by simp)
  have hcw : cw (S k.T c) = 1 := by rw [hS]; unfold cw; rw [if_pos hx1]
  have hst := hrg.step hb6.drew (by simp only [List.length_set]; exact hpl) hk6.drew (by rw [hcw, lset_ne (by omega), lset_ne (by omega), lset_ne (by omega), lset_at (by simp only [List.length_set]; omega)]; rfl) (by rw [lset_at (by simp only [List.length_set]; omega)]) (fun j hj => by rw [lset_ne (by omega), lset_ne (by omega), lset_ne (by omega), lset_ne (by omega)])
  rw [hcw, show nx k.T c = c + 1 by unfold nx; rw [hcw]] at hst
  refine ⟨rfl, ⟨_, hst, ?_, ?_, ⟨0, ?_⟩, fun j h1 h2 h3 h4 h5 => ?_⟩, (hgg.kp hk6 (by simp; exact hgp)).drew, ((HK2.out.mono (by simp)).trans (hkg.mono (by simp))).trans (hk6.drew.mono (by simp))⟩
  · rw [lset_ne (by omega), lset_ne (by omega), lset_at (by simp only [List.length_set]; omega)]; rfl
  · rw [lset_ne (by omega), lset_at (by simp only [List.length_set]; omega)]; rfl
  · rw [lset_ne (by omega), lset_ne (by omega), lset_ne (by omega), lset_ne (by omega), lset_at (by omega)]
  · rw [lset_ne (by omega), lset_ne (by omega), lset_ne (by omega), lset_ne (by omega), lset_ne (by omega)]
end Go.Proofs.YtocbbekciphjgaaDoor.Sc
