/- The first letter is read (read, a nil slice): the walk. -/
import Derived.Test.YtocbbekciphjgaaDoorAnA
import Derived.Test.YtocbbekciphjgaaDoorScC
namespace Go.Proofs.YtocbbekciphjgaaDoor.Sc
open Go.RowKit Go.Proofs.YtocbbekciphjgaaDoor.Rdp Go.Proofs.YtocbbekciphjgaaDoor.Pa
set_option linter.unusedVariables false
set_option linter.unusedSimpArgs false
set_option maxHeartbeats 4000000 in
set_option maxRecDepth 100000 in
theorem read_first (k : Kn) (p c u bp bl mi mc : Nat) (z x : Int) (L : List Value) (w : World) (h : Rdr k p c (u + 1) bp bl L w) (h24 : L[24]? = some (.int .i64 (mi : Nat))) (h26 : L[26]? = some (.int .i64 (mc : Nat))) (h19 : L[19]? = some (.int .i64 z)) (hmi : mi ≤ 1000000000000) (hmc : mc ≤ 1000000000000) (hu : u ≤ 1000000)
    (hS : S k.T c = x) (hx0 : 33 ≤ x) (hx1 : x < 128) :
    Calls Tryd.prog 109 #[.pointer (some ⟨p, 0, none⟩), .slice none 0 0] w fun e w' => ∃ g L', e = .returned (.slice (some ⟨g, 0, none⟩) 1 32) ∧ w.heap.size ≤ g ∧ Rdr k p (c + 1) u (bp + 1) bl L' w' ∧ (L'[24]? = some (.int .i64 (mi + 1 : Nat)) ∧ L'[26]? = some (.int .i64 (mc + 1 : Nat)) ∧ (∃ z, L'[19]? = some (.int .i64 z)) ∧ (∀ j, j ≠ 17 → j ≠ 18 → j ≠ 19 → j ≠ 24 → j ≠ 26 → L'[j]? = L[j]?)) ∧ Bk w' g 5 ((zeros 32).set 0 (.int .u8 x)) ∧ Kp [p] w w' := by
  have hrd := h.ready 1 (by omega)
  have hsm := h.small
  have hge := adv_ge k.T c 1
  have hby := h.byte 0 (by omega)
  rw [Nat.add_zero, Nat.add_zero, hS] at hby
  obtain ⟨c16, f16⟩ := at_ h.pb 16 h.at16
  obtain ⟨c17, f17⟩ := at_ h.pb 17 h.at17
  obtain ⟨c18, f18⟩ := at_ h.pb 18 h.at18
  obtain ⟨c19, f19⟩ := at_ h.pb 19 h19
  obtain ⟨c24, f24⟩ := at_ h.pb 24 h24
  obtain ⟨c26, f26⟩ := at_ h.pb 26 h26
  have hb0 : isBlank x = false := by unfold isBlank; rw [Bool.or_eq_false_iff, beq_eq_false_iff_ne, beq_eq_false_iff_ne]; omega
  have hbl : ∀ N, Calls Tryd.prog 102 #[.slice (some ⟨k.q, 0, none⟩) bl 1536, .int .i64 bp] (w.drewN N) fun e w' => e = .returned (.bool false) ∧ w' = w.drewN N := fun N => by
    have := blank_any k.q bp bl 1536 x (w.drewN N) (by omega) (by omega) hby
    rw [hb0] at this
    exact this
  have hfar0 : Far k p w.heap.size := by
    obtain ⟨rl, rpos, ip, eof, RL, BL, st, hl, _⟩ := h.ex
    have l3 := hl.pb.lt
    have l4 := hl.rb.lt
    have l5 := hl.qb.lt
    have l6 : 2 < w.heap.size := World.block_lt_of_cell? w ⟨2, 0, none⟩ hl.ev
    refine ⟨by unfold Kn.bs; simp; omega, by omega, fun o e => ?_⟩
    rcases hl.inp with h0 | ⟨b', o', e', h1, _⟩
    · exact h0
    · rw [e] at e'
      simp only [Option.some.injEq, Addr.mk.injEq] at e'
      omega
  have hpq : ¬ p = k.q := h.ok.pq
  have hqp : ¬ k.q = p := Ne.symm h.ok.pq
  have hmk : ∀ W : World, (Instr.makeSlice 22 (.int .i64 0) (.int .i64 32)).run Tryd.prog W = .ok (.slice (some ⟨W.heap.size, 0, none⟩) 0 32) (W.alloc (.cells (zeros 32).toArray 5)) := fun W => mk_any 32 (by omega) W
  have hwd : ∀ W, Calls Tryd.prog 131 #[.int .u8 x] W fun e w' => e = .returned (.int .i64 1) ∧ w' = W := fun W => by
    have := Wd.wd_any x (by omega) (by omega) W
    rw [show Wd.wd x = 1 by unfold Wd.wd; rw [if_pos (by omega)]] at this
    exact this.mono fun _ _ h => ⟨h.1, h.2.symm⟩
  have HWD := Lib.hid hwd
  clear hwd
  have HBL := Lib.hid hbl
  have H := Lib.hid h
  have u1 : ((u + 1 : Nat) : Int) = (u : Int) + 1 := by omega
  rw [u1] at c18
  have j1 : (bp : Int) < (bl : Int) := by omega
  have j0 : (0 : Int) ≤ (bp : Int) := by omega
  have j2 : (bl : Int) ≤ 541 := by omega
  clear h hrd hbl u1 hge hb0
  go_enter Tryd.func109, Tryd.ntmps109
  go_wp2_with fail
  go_quiet ((go_at_call 102; exact Calls.quiet_of_same (HBL.out _)))
  go_wp2_with fail
  obtain ⟨wb, HWB⟩ : ∃ wb : World, Hid ((w.drewN nq).setCell ⟨p, 19, none⟩ (.int .i64 0) = wb) := ⟨_, rfl⟩
  have hkb : Kp [p] w wb := by rw [← HWB.out]; exact ((Kp.refl _ _).drewN nq).setCell p 19 _ (by simp)
  have hbb : Bk wb p 120 (L.set 19 (.int .i64 0)) := by rw [← HWB.out]; exact (H.out.pb.drewN nq).set 19 _
  have hszb : wb.heap.size = w.heap.size := by rw [← HWB.out]; simp
  have hbyb : wb.cell? ⟨k.q, bp, none⟩ = some (.int .u8 x) := kp_cell hkb hby (by simp; exact hqp)
  rw [HWB.out]
  have hrb := H.out.turn hbb (by simp only [List.length_set]; exact H.out.plen) hkb (fun j hj => lset_ne (by omega))
  have hpl := H.out.plen
  clear c16 f16 c17 f17 c18 f18 c19 f19 c24 f24 c26 f26 hby
  obtain ⟨c16, f16⟩ := at_ hrb.pb 16 hrb.at16
  obtain ⟨c17, f17⟩ := at_ hrb.pb 17 hrb.at17
  obtain ⟨c18, f18⟩ := at_ hrb.pb 18 hrb.at18
  obtain ⟨c24, f24⟩ := at_ hrb.pb 24 ((lset_ne (by omega)).trans h24)
  obtain ⟨c26, f26⟩ := at_ hrb.pb 26 ((lset_ne (by omega)).trans h26)
  have u1 : ((u + 1 : Nat) : Int) = (u : Int) + 1 := by omega
  rw [u1] at c18
  have HRB := Lib.hid hrb
  have HKB := Lib.hid hkb
  clear hrb hkb hbb u1 HWB HBL H
  go_quiet ((go_at_call 131; exact Calls.quiet_of_same (HWD.out _)))
  go_wp2_with fail
  have hlb := HRB.out.pb.lt
  have hfar : Far k p w.heap.size := hfar0
  obtain ⟨wd, HWDD⟩ : ∃ wd : World, Hid ((wb.drewN nq).alloc (.cells (zeros 32).toArray 5) = wd) := ⟨_, rfl⟩
  rw [HWDD.out]
  have hbl0 : Below (wb.drewN nq).heap.size (wb.drewN nq) wd := by rw [← HWDD.out]; exact (Below.refl _ _).alloc (Nat.le_refl _) _
  have hr2 : Rdr k p c (u + 1) bp bl (L.set 19 (.int .i64 0)) wd := rdr_new (HRB.out.drewN nq) hbl0
  have hk2 : Kp [p] w wd := (HKB.out.drewN nq).trans (Kp.of_below hbl0)
  have hg2 : Bk wd w.heap.size 5 (zeros 32) := by
    have := Bk.new (wb.drewN nq) (zeros 32) 5
    rw [HWDD.out, show (wb.drewN nq).heap.size = w.heap.size from hszb] at this
    exact this
  have hby2 : wd.cell? ⟨k.q, bp, none⟩ = some (.int .u8 x) := kp_cell (Kp.of_below (ps := []) hbl0) (show (wb.drewN nq).cell? ⟨k.q, bp, none⟩ = _ from hbyb) (by simp)
  have hgp : ¬ w.heap.size = p := fun e => hfar.1 (by rw [e]; exact k.mp p)
  have hpg : ¬ p = w.heap.size := fun e => hgp e.symm
  clear c16 f16 c17 f17 c18 f18 c24 f24 c26 f26 hbyb
  obtain ⟨c16, f16⟩ := at_ hr2.pb 16 hr2.at16
  obtain ⟨c17, f17⟩ := at_ hr2.pb 17 hr2.at17
  obtain ⟨c18, f18⟩ := at_ hr2.pb 18 hr2.at18
  obtain ⟨c24, f24⟩ := at_ hr2.pb 24 ((lset_ne (by omega)).trans h24)
  obtain ⟨c26, f26⟩ := at_ hr2.pb 26 ((lset_ne (by omega)).trans h26)
  obtain ⟨cg, fg⟩ := at_ hg2 0 (show (zeros 32)[0]? = some (.int .u8 0) from rfl)
  have u1 : ((u + 1 : Nat) : Int) = (u : Int) + 1 := by omega
  rw [u1] at c18
  have HR2 := Lib.hid hr2
  have HK2 := Lib.hid hk2
  have HG2 := Lib.hid hg2
  clear hr2 hk2 hg2 u1 HWDD HRB HKB hbl0 hmk
  refine wp_region_still_tail 14 (by kernel_rfl) (by kernel_rfl) ?_
  simp only [List.take_succ_cons, List.take_zero, List.drop_succ_cons, List.drop_zero]
  repeat still_step
  refine wpStill_nil ?_
  change wpList _ _ _ _ _ wd.drew
  go_wp2_with fail
  go_ret
  have hkg : Kp [w.heap.size] wd (wd.setCell ⟨w.heap.size, 0, none⟩ (.int .u8 x)) := (Kp.refl _ _).setCell w.heap.size 0 _ (by simp)
  have hrg := rdr_far HR2.out hkg (fun b hb => by simp at hb; subst hb; exact hfar)
  have hgg := HG2.out.set 0 (.int .u8 x)
  generalize wd.setCell ⟨w.heap.size, 0, none⟩ (.int .u8 x) = wg at *
  have hb6 := (((hrg.pb.set 17 (.int .i64 ((bp : Int) + 1))).set 24 (.int .i64 ((mi : Int) + 1))).set 26 (.int .i64 ((mc : Int) + 1))).set 18 (.int .i64 (u : Int))
  have hk6 := ((((Kp.refl [p] wg).setCell p 17 (.int .i64 ((bp : Int) + 1)) (by simp)).setCell p 24 (.int .i64 ((mi : Int) + 1)) (by simp)).setCell p 26 (.int .i64 ((mc : Int) + 1)) (by simp)).setCell p 18 (.int .i64 (u : Int)) (by simp)
  have hcw : cw (S k.T c) = 1 := by rw [hS]; unfold cw; rw [if_pos hx1]
  have hst := hrg.step hb6.drew (by simp only [List.length_set]; exact hpl) hk6.drew (by rw [hcw, lset_ne (by omega), lset_ne (by omega), lset_ne (by omega), lset_at (by simp only [List.length_set]; omega)]; rfl) (by rw [lset_at (by simp only [List.length_set]; omega)]) (fun j hj => by rw [lset_ne (by omega), lset_ne (by omega), lset_ne (by omega), lset_ne (by omega)])
  rw [hcw, show nx k.T c = c + 1 by unfold nx; rw [hcw]] at hst
  refine ⟨w.heap.size, _, rfl, Nat.le_refl _, hst, ⟨?_, ?_, ⟨0, ?_⟩, fun j h1 h2 h3 h4 h5 => ?_⟩, (hgg.kp hk6 (by simp; exact hgp)).drew, ?_⟩
  · rw [lset_ne (by omega), lset_ne (by omega), lset_at (by simp only [List.length_set]; omega)]; rfl
  · rw [lset_ne (by omega), lset_at (by simp only [List.length_set]; omega)]; rfl
  · rw [lset_ne (by omega), lset_ne (by omega), lset_ne (by omega), lset_ne (by omega), lset_at (by omega)]
  · rw [lset_ne (by omega), lset_ne (by omega), lset_ne (by omega), lset_ne (by omega), lset_ne (by omega)]
  have hwd : Kp [p] w wg := ⟨hkg.os.trans HK2.out.os, hkg.tape.trans HK2.out.tape, hkg.output.trans HK2.out.output, Nat.le_trans HK2.out.size hkg.size, fun i h1 h2 => (hkg.block i (by have := HK2.out.size; omega) (by simp; omega)).trans (HK2.out.block i h1 h2)⟩
  exact hwd.trans hk6.drew
end Go.Proofs.YtocbbekciphjgaaDoor.Sc
