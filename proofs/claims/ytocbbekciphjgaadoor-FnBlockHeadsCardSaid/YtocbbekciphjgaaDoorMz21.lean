/- QdH, QdI: parts of the proof, one behind another. -/
import Derived.Deep.LoopGhost
import Derived.Test.YtocbbekciphjgaaDoorMz11
import Derived.Test.YtocbbekciphjgaaDoorMz15
import Derived.Test.YtocbbekciphjgaaDoorMz20
/- QdH -/
/- A character is read, a line feed passed over or read: the contracts in characters. -/
namespace Go.Proofs.YtocbbekciphjgaaDoor.Qd
open Go.RowKit Go.Proofs.YtocbbekciphjgaaDoor.Rdp Go.Proofs.YtocbbekciphjgaaDoor.Pa Go.Proofs.YtocbbekciphjgaaDoor.Sc
set_option linter.unusedVariables false
set_option linter.unusedSimpArgs false
/-- What a call leaves that reads into a row: the row, and where it wrote. -/
def Gave (k : Kn) (p lo : Nat) (v v' : Value) (l : List Int) (w w' : World) : Prop := Row lo w' v' l ∧ Grew w v v' ∧ ∃ ps, Kp ps w w' ∧ ∀ b ∈ ps, b ∈ k.bs p ∨ v.ownBlock = some b
theorem At.read {k : Kn} {p : Nat} {L0 : List Value} {c u col lo : Nat} {x : Int} {rest l : List Int} {v : Value} {w : World} (h : At k p L0 c (u + 1) col (x :: rest) w) (hrow : Row lo w v l) (hl : l.length ≤ 10000000) (hlo : lo ≤ w.heap.size) (hfar : ∀ g, lo ≤ g → Far k p g) :
    Calls Tryd.prog 109 #[.pointer (some ⟨p, 0, none⟩), v] w fun e w' => ∃ v', e = .returned v' ∧ At k p L0 (c + (u8 x).length) u (col + 1) rest w' ∧ Gave k p lo v v' (l ++ u8 x) w w' := by
  obtain ⟨bp, bl, mi, ml, z, L, h1, h24, h25, h26, h19, m1, m2, m3, ho⟩ := h.ex
  have hlen := h.len
  have hc := h.fro.2
  have hu := rdr_u h1
  have hx := h.ch x (by simp)
  have hpos := u8_pos x
  refine (read_any k p c u bp bl mi col lo z v l L w h1 h24 h26 h19 (by omega) (by omega) (by omega) hrow hl hlo hfar (u8 x) (h.fro.cw hx).symm (fun i hi => (h.fro.byte i hi).symm)).mono ?_
  rintro e w' ⟨v', rfl, g0, ⟨L', g1, g2, g3, ⟨z', g4⟩, g5⟩, g6, ps, g7, g8⟩
  rw [h.fro.nx hx] at g1
  refine ⟨v', rfl, ⟨h.fro.on, fun y hy => h.ch y (by simp [hy]), h.len, _, _, mi + 1, ml, z', L', g1, g2, ?_, g3, g4, by omega, by omega, by omega, fun j j1 j2 j3 j4 j5 => ?_⟩, g0, g6, ps, g7, fun b hb => (g8 b hb).imp (fun e => by rw [e]; exact k.mp p) id⟩
  · exact (g5 25 (by omega) (by omega) (by omega) (by omega) (by omega)).trans h25
  · unfold rdOff at j1
    exact (g5 j (by omega) (by omega) (by omega) (by omega) (by omega)).trans (ho j (by unfold rdOff; omega) j2 j3 j4 j5)
/-- The parser's cells behind a line feed. -/
def fed (L : List Value) (bp u mi ml : Nat) (z : Int) : List Value := (((((L.set 24 (.int .i64 (mi + 1 : Nat))).set 26 (.int .i64 (0 : Nat))).set 25 (.int .i64 (ml + 1 : Nat))).set 18 (.int .i64 (u : Nat))).set 17 (.int .i64 (bp + 1 : Nat))).set 19 (.int .i64 z)
theorem fed_at {k : Kn} {p c u bp bl mi ml : Nat} {z : Int} {L0 L : List Value} {w w' : World} {rest : List Int} (h : Rdr k p c (u + 1) bp bl L w) (hf : Fro k.T c (10 :: rest)) (hch : ∀ x ∈ 10 :: rest, Ch x) (hlen : k.T.length ≤ 1000000) (m1 : mi ≤ c) (m2 : ml ≤ c) (ho : ∀ j, rdOff j → j ≠ 19 → j ≠ 24 → j ≠ 25 → j ≠ 26 → L[j]? = L0[j]?)
    (hk : Kp [p] w w') (hb : Bk w' p 120 (fed L bp u mi ml z)) : At k p L0 (c + 1) u 0 rest w' := by
  have hs : S k.T c = 10 := hf.small (by omega)
  have hpl := h.plen
  have hcw : cw (S k.T c) = 1 := by rw [hs]; rfl
  have hst := h.step hb (by unfold fed; simp only [List.length_set]; exact hpl) hk (by rw [hcw]; unfold fed; rw [lset_ne (by omega), lset_at (by simp only [List.length_set]; omega)]) (by unfold fed; rw [lset_ne (by omega), lset_ne (by omega), lset_at (by simp only [List.length_set]; omega)]) (fun j hj => ?_)
  · rw [show nx k.T c = c + 1 by unfold nx; rw [hcw]] at hst
    have hon := hf.on
    rw [u8_1 (by omega)] at hon
    refine ⟨hon, fun y hy => hch y (by simp [hy]), hlen, _, _, mi + 1, ml + 1, z, _, hst, ?_, ?_, ?_, ?_, by omega, by omega, by omega, fun j j1 j2 j3 j4 j5 => ?_⟩
    · unfold fed; rw [lset_ne (by omega), lset_ne (by omega), lset_ne (by omega), lset_ne (by omega), lset_ne (by omega), lset_at (by omega)]
    · unfold fed; rw [lset_ne (by omega), lset_ne (by omega), lset_ne (by omega), lset_at (by simp only [List.length_set]; omega)]
    · unfold fed; rw [lset_ne (by omega), lset_ne (by omega), lset_ne (by omega), lset_ne (by omega), lset_at (by simp only [List.length_set]; omega)]
    · unfold fed; rw [lset_at (by simp only [List.length_set]; omega)]
    · unfold rdOff at j1
      unfold fed
      rw [lset_ne (by omega), lset_ne (by omega), lset_ne (by omega), lset_ne (by omega), lset_ne (by omega), lset_ne (by omega)]
      exact ho j (by unfold rdOff; omega) j2 j3 j4 j5
  · unfold fed
    by_cases e24 : j = 24
    · omega
    · rw [lset_ne (by omega), lset_ne (by omega), lset_ne (by omega), lset_ne (by omega), lset_ne (by omega), lset_ne (by omega)]
set_option maxHeartbeats 8000000 in
set_option maxRecDepth 100000 in
/-- A line feed is passed over (skip_line). -/
theorem At.skip_line {k : Kn} {p : Nat} {L0 : List Value} {c u col : Nat} {rest : List Int} {w : World} (h : At k p L0 c (u + 1) col (10 :: rest) w) :
    Calls Tryd.prog 116 #[.pointer (some ⟨p, 0, none⟩)] w fun e w' => e = .returned (.tuple #[]) ∧ At k p L0 (c + 1) u 0 rest w' ∧ Kp (k.bs p) w w' ∧ w'.heap.size = w.heap.size := by
  obtain ⟨bp, bl, mi, ml, z, L, h1, h24, h25, h26, h19, m1, m2, m3, ho⟩ := h.ex
  have hf := h.fro
  have hch := h.ch
  have hlen := h.len
  have hc := hf.2
  have hs : S k.T c = 10 := hf.small (by omega)
  have hu541 := rdr_u h1
  have hsm := h1.small
  have hrd := h1.ready 1 (by omega)
  have hge := adv_ge k.T c 1
  have hby := h1.byte 0 (by omega)
  rw [Nat.add_zero, Nat.add_zero, hs] at hby
  have hpq : ¬ p = k.q := h1.ok.pq
  have hqp : ¬ k.q = p := Ne.symm h1.ok.pq
  obtain ⟨c16, f16⟩ := at_ h1.pb 16 h1.at16
  obtain ⟨c17, f17⟩ := at_ h1.pb 17 h1.at17
  obtain ⟨c18, f18⟩ := at_ h1.pb 18 h1.at18
  obtain ⟨c19, f19⟩ := at_ h1.pb 19 h19
  obtain ⟨c24, f24⟩ := at_ h1.pb 24 h24
  obtain ⟨c25, f25⟩ := at_ h1.pb 25 h25
  obtain ⟨c26, f26⟩ := at_ h1.pb 26 h26
  have u1 : ((u + 1 : Nat) : Int) = (u : Int) + 1 := by omega
  rw [u1] at c18
  have j1 : (bp : Int) < (bl : Int) := by omega
  have j0 : (0 : Int) ≤ (bp : Int) := by omega
  have j2 : (bl : Int) ≤ 541 := by omega
  have j3 : (mi : Int) ≤ 1000000 := by omega
  have j4 : (ml : Int) ≤ 1000000 := by omega
  have j5 : (u : Int) ≤ 541 := by omega
  have H1 := Lib.hid h1
  have HF := Lib.hid hf
  have HCH := Lib.hid hch
  have HO := Lib.hid ho
  have H24 := Lib.hid h24
  have H19 := Lib.hid h19
  have H25 := Lib.hid h25
  have H26 := Lib.hid h26
  have hcr : ∀ N, Calls Tryd.prog 134 #[.slice (some ⟨k.q, 0, none⟩) bl 1536, .int .i64 bp] (w.drewN N) fun e w' => e = .returned (.bool false) ∧ w' = w.drewN N := fun N => crlf_no k.q bp bl 1536 10 (by omega) (by omega) (by omega) (by omega) rfl (w.drewN N) hby
  have hbr : ∀ N, Calls Tryd.prog 115 #[.slice (some ⟨k.q, 0, none⟩) bl 1536, .int .i64 bp] (w.drewN N) fun e w' => e = .returned (.bool true) ∧ w' = w.drewN N := fun N => brk_lf k.q bp bl 1536 (by omega) (by omega) (w.drewN N) hby
  have hwd : ∀ W, Calls Tryd.prog 131 #[.int .u8 10] W fun e w' => e = .returned (.int .i64 1) ∧ w' = W := fun W => (Wd.wd_any 10 (by omega) (by omega) W).mono fun _ _ h => ⟨h.1, h.2.symm⟩
  have HCR := Lib.hid hcr
  have HBR := Lib.hid hbr
  have HWD := Lib.hid hwd
  clear h h1 hf hch ho hcr hbr hwd h24 h25 h26 h19 hrd hge u1
  go_enter Tryd.func116, Tryd.ntmps116
  go_wp2_with fail
  go_quiet ((go_at_call 134; exact Calls.quiet_of_same (HCR.out _)))
  go_wp2_with fail
  obtain ⟨wa, hwa⟩ : ∃ wa : World, wa = w.drewN nq := ⟨_, rfl⟩
  have hbra : ∀ N, Calls Tryd.prog 115 #[.slice (some ⟨k.q, 0, none⟩) bl 1536, .int .i64 bp] (wa.drewN N) fun e w' => e = .returned (.bool true) ∧ w' = wa.drewN N := fun N => brk_lf k.q bp bl 1536 (by omega) (by omega) (wa.drewN N) (by rw [hwa]; exact hby)
  have HBRA := Lib.hid hbra
  have HKA : Hid (Kp [p] w wa ∧ wa.heap.size = w.heap.size) := by rw [hwa]; exact ⟨(Kp.refl _ _).drewN nq, rfl⟩
  have HA : Hid (Bk wa p 120 L) := by rw [hwa]; exact H1.out.pb.drewN nq
  have HBYA : Hid (wa.cell? ⟨k.q, bp, none⟩ = some (.int .u8 10)) := by rw [hwa]; exact hby
  have d16 : wa.cell? ⟨p, 16, none⟩ = some (.slice (some ⟨k.q, 0, none⟩) bl 1536) := by rw [hwa]; exact c16
  have d17 : wa.cell? ⟨p, 17, none⟩ = some (.int .i64 (bp : Nat)) := by rw [hwa]; exact c17
  have d18 : wa.cell? ⟨p, 18, none⟩ = some (.int .i64 ((u : Int) + 1)) := by rw [hwa]; exact c18
  have d19 : wa.cell? ⟨p, 19, none⟩ = some (.int .i64 z) := by rw [hwa]; exact c19
  have d24 : wa.cell? ⟨p, 24, none⟩ = some (.int .i64 (mi : Nat)) := by rw [hwa]; exact c24
  have d25 : wa.cell? ⟨p, 25, none⟩ = some (.int .i64 (ml : Nat)) := by rw [hwa]; exact c25
  have d26 : wa.cell? ⟨p, 26, none⟩ = some (.int .i64 (col : Nat)) := by rw [hwa]; exact c26
  have g17 : wa.frozen? ⟨p, 17, none⟩ = false := by rw [hwa]; exact f17
  have g18 : wa.frozen? ⟨p, 18, none⟩ = false := by rw [hwa]; exact f18
  have g19 : wa.frozen? ⟨p, 19, none⟩ = false := by rw [hwa]; exact f19
  have g24 : wa.frozen? ⟨p, 24, none⟩ = false := by rw [hwa]; exact f24
  have g25 : wa.frozen? ⟨p, 25, none⟩ = false := by rw [hwa]; exact f25
  have g26 : wa.frozen? ⟨p, 26, none⟩ = false := by rw [hwa]; exact f26
  rw [← hwa]
  clear hwa c16 f16 c17 f17 c18 f18 c19 f19 c24 f24 c25 f25 c26 f26 hby HCR HBR hbra
  go_quiet ((go_at_call 115; exact Calls.quiet_of_same (HBRA.out _)))
  go_wp2_with fail
  have hb5 := ((((HA.out.drewN nq).set 24 (.int .i64 ((mi : Int) + 1))).set 26 (.int .i64 0)).set 25 (.int .i64 ((ml : Int) + 1))).set 18 (.int .i64 (u : Int))
  have hk5 := (((((Kp.refl [p] wa).drewN nq).setCell p 24 (.int .i64 ((mi : Int) + 1)) (by simp)).setCell p 26 (.int .i64 0) (by simp)).setCell p 25 (.int .i64 ((ml : Int) + 1)) (by simp)).setCell p 18 (.int .i64 (u : Int)) (by simp)
  have hs5 : (((((wa.drewN nq).setCell ⟨p, 24, none⟩ (.int .i64 ((mi : Int) + 1))).setCell ⟨p, 26, none⟩ (.int .i64 0)).setCell ⟨p, 25, none⟩ (.int .i64 ((ml : Int) + 1))).setCell ⟨p, 18, none⟩ (.int .i64 (u : Int))).heap.size = w.heap.size := by simp; exact HKA.out.2
  have hkw := HKA.out.1.trans hk5
  clear d16 d17 d18 d19 d24 d25 d26 g17 g18 g19 g24 g25 g26 HBRA
  generalize (((((wa.drewN nq).setCell ⟨p, 24, none⟩ (.int .i64 ((mi : Int) + 1))).setCell ⟨p, 26, none⟩ (.int .i64 0)).setCell ⟨p, 25, none⟩ (.int .i64 ((ml : Int) + 1))).setCell ⟨p, 18, none⟩ (.int .i64 (u : Int))) = w5 at *
  have hby5 : w5.cell? ⟨k.q, bp, none⟩ = some (.int .u8 10) := kp_cell hk5 HBYA.out (by simp; exact hqp)
  have hpl := H1.out.plen
  obtain ⟨d16, g16⟩ := at_ hb5 16 (v := .slice (some ⟨k.q, 0, none⟩) bl 1536) (by rw [lset_ne (by omega), lset_ne (by omega), lset_ne (by omega), lset_ne (by omega)]; exact H1.out.at16)
  obtain ⟨d17, g17⟩ := at_ hb5 17 (v := .int .i64 (bp : Nat)) (by rw [lset_ne (by omega), lset_ne (by omega), lset_ne (by omega), lset_ne (by omega)]; exact H1.out.at17)
  obtain ⟨d19, g19⟩ := at_ hb5 19 (v := .int .i64 z) (by rw [lset_ne (by omega), lset_ne (by omega), lset_ne (by omega), lset_ne (by omega)]; exact H19.out)
  have HB5 := Lib.hid hb5
  have HKW := Lib.hid hkw
  have HS5 := Lib.hid hs5
  clear hb5 hk5 hs5 hkw HKA HA HBYA
  refine wp_region_still_tail 18 (by kernel_rfl) (by kernel_rfl) ?_
  simp only [List.take_succ_cons, List.take_zero, List.drop_succ_cons, List.drop_zero]
  iterate 14 still_step
  still_call (HWD.out _)
  repeat still_step
  refine wpStill_nil ?_
  change wpList _ _ _ _ _ w5.drew
  go_wp2_with fail
  go_end0
  have hb7 := ((HB5.out.set 17 (.int .i64 ((bp : Int) + 1))).set 19 (.int .i64 (wrap64 (z + 1)))).drew
  have hk7 := (((Kp.refl [p] w5).setCell p 17 (.int .i64 ((bp : Int) + 1)) (by simp)).setCell p 19 (.int .i64 (wrap64 (z + 1))) (by simp)).drew
  refine ⟨rfl, fed_at H1.out HF.out HCH.out hlen m1 m2 HO.out (HKW.out.trans hk7) hb7, (HKW.out.trans hk7).mono (by simp; exact k.mp p), ?_⟩
  show ((w5.setCell ⟨p, 17, none⟩ _).setCell ⟨p, 19, none⟩ _).heap.size = _
  simp
  exact HS5.out
set_option maxHeartbeats 8000000 in
set_option maxRecDepth 100000 in
/-- A line feed is read (read_line). -/
theorem At.read_line {k : Kn} {p : Nat} {L0 : List Value} {c u col lo : Nat} {rest l : List Int} {v : Value} {w : World} (h : At k p L0 c (u + 1) col (10 :: rest) w) (hrow : Row lo w v l) (hl : l.length ≤ 10000000) (hlo : lo ≤ w.heap.size) (hfar : ∀ g, lo ≤ g → Far k p g) :
    Calls Tryd.prog 119 #[.pointer (some ⟨p, 0, none⟩), v] w fun e w' => ∃ v', e = .returned v' ∧ At k p L0 (c + 1) u 0 rest w' ∧ Gave k p lo v v' (l ++ [10]) w w' := by
  obtain ⟨bp, bl, mi, ml, z, L, h1, h24, h25, h26, h19, m1, m2, m3, ho⟩ := h.ex
  have hf := h.fro
  have hch := h.ch
  have hlen := h.len
  have hc := hf.2
  have hs : S k.T c = 10 := hf.small (by omega)
  have hu541 := rdr_u h1
  have hsm := h1.small
  have hrd := h1.ready 1 (by omega)
  have hge := adv_ge k.T c 1
  have hby := h1.byte 0 (by omega)
  rw [Nat.add_zero, Nat.add_zero, hs] at hby
  have hpq : ¬ p = k.q := h1.ok.pq
  have hqp : ¬ k.q = p := Ne.symm h1.ok.pq
  obtain ⟨c16, f16⟩ := at_ h1.pb 16 h1.at16
  obtain ⟨c17, f17⟩ := at_ h1.pb 17 h1.at17
  obtain ⟨c18, f18⟩ := at_ h1.pb 18 h1.at18
  obtain ⟨c19, f19⟩ := at_ h1.pb 19 h19
  obtain ⟨c24, f24⟩ := at_ h1.pb 24 h24
  obtain ⟨c25, f25⟩ := at_ h1.pb 25 h25
  obtain ⟨c26, f26⟩ := at_ h1.pb 26 h26
  have u1 : ((u + 1 : Nat) : Int) = (u : Int) + 1 := by omega
  rw [u1] at c18
  have j1 : (bp : Int) < (bl : Int) := by omega
  have j0 : (0 : Int) ≤ (bp : Int) := by omega
  have j2 : (bl : Int) ≤ 541 := by omega
  have j3 : (mi : Int) ≤ 1000000 := by omega
  have j4 : (ml : Int) ≤ 1000000 := by omega
  have j5 : (u : Int) ≤ 541 := by omega
  have H1 := Lib.hid h1
  have HF := Lib.hid hf
  have HCH := Lib.hid hch
  have HO := Lib.hid ho
  have H24 := Lib.hid h24
  have H19 := Lib.hid h19
  have H25 := Lib.hid h25
  have H26 := Lib.hid h26
  obtain ⟨va, vc, rfl⟩ := hrow.slice
  have HROW := Lib.hid hrow
  have HFAR := Lib.hid hfar
  clear h h1 hf hch ho h24 h25 h26 h19 hrd hge u1 hrow hfar
  go_enter Tryd.func119, Tryd.ntmps119
  go_wp2_with ((at_builtin; refine wpList_add rfl (.tmp 69) (.tmp 70) rfl lo _ l [10] rfl (World.ownsRow.alloc HROW.out _) ⟨w.heap.size, 0, none⟩ 1 1 rfl rfl (fun j hj => by rw [Addr.add_lit]; obtain rfl : j = 0 := Nat.lt_one_iff.1 hj; simp [World.cell?_alloc_new]) (Nat.le_trans (Nat.add_le_add_right hl 1) (by omega)) (Nat.le_trans hlo (by simp)) ?_))
  intro v' wg hrow' hgrow hgr
  have hps : ∃ ps, Kp ps w wg ∧ ∀ b ∈ ps, Value.ownBlock (.slice va l.length vc) = some b := by
    cases hb : Value.ownBlock (.slice va l.length vc) with
    | none => exact ⟨[], ((Kp.refl [] w).alloc _).trans (grown_kp hgrow (fun b hb' => by rw [hb] at hb'; cases hb')), by simp⟩
    | some g => exact ⟨[g], ((Kp.refl [g] w).alloc _).trans (grown_kp hgrow (fun b hb' => by rw [hb] at hb'; cases hb'; simp)), by simp⟩
  obtain ⟨ps, hkg, hps⟩ := hps
  have hfarps : ∀ b ∈ ps, Far k p b := fun b hb => HFAR.out b (HROW.out.own b (hps b hb)).1
  have hrg := rdr_far H1.out hkg hfarps
  have hgrew : Grew w (.slice va l.length vc) v' := by
    rcases hgr with e | ⟨b, e1, e2⟩
    · exact .inl e
    · exact .inr ⟨b, e1, by simp at e2; omega⟩
  have hvp : ∀ b, v'.ownBlock = some b → b ∉ [p] := by
    intro b hb hh
    rw [List.mem_singleton] at hh
    have := (hrow'.own b hb).1
    exact (HFAR.out b this).1 (by rw [hh]; exact k.mp p)
  clear c16 f16 c17 f17 c18 f18 c19 f19 c24 f24 c25 f25 c26 f26 hby
  have hpl := H1.out.plen
  obtain ⟨c17, f17⟩ := at_ hrg.pb 17 hrg.at17
  obtain ⟨c18, f18⟩ := at_ hrg.pb 18 hrg.at18
  obtain ⟨c19, f19⟩ := at_ hrg.pb 19 H19.out
  obtain ⟨c24, f24⟩ := at_ hrg.pb 24 H24.out
  obtain ⟨c25, f25⟩ := at_ hrg.pb 25 H25.out
  obtain ⟨c26, f26⟩ := at_ hrg.pb 26 H26.out
  have u1 : ((u + 1 : Nat) : Int) = (u : Int) + 1 := by omega
  rw [u1] at c18
  have HRG := Lib.hid hrg
  have HKG := Lib.hid hkg
  have HROW' := Lib.hid hrow'
  have HGR := Lib.hid hgrew
  have HVP := Lib.hid hvp
  have HPS := Lib.hid hps
  clear hrow' hgrow hgr hrg hkg hgrew hvp u1 hfarps hps
  go_wp2_with fail
  go_ret
  have hb6 := (((((HRG.out.pb.set 17 (.int .i64 ((bp : Int) + 1))).set 24 (.int .i64 ((mi : Int) + 1))).set 26 (.int .i64 0)).set 25 (.int .i64 ((ml : Int) + 1))).set 18 (.int .i64 (u : Int))).set 19 (.int .i64 (wrap64 (z + 1)))
  have hk6 := ((((((Kp.refl [p] wg).setCell p 17 (.int .i64 ((bp : Int) + 1)) (by simp)).setCell p 24 (.int .i64 ((mi : Int) + 1)) (by simp)).setCell p 26 (.int .i64 0) (by simp)).setCell p 25 (.int .i64 ((ml : Int) + 1)) (by simp)).setCell p 18 (.int .i64 (u : Int)) (by simp)).setCell p 19 (.int .i64 (wrap64 (z + 1))) (by simp)
  rw [List.set_comm (i := 17) (j := 24) _ _ (by omega), List.set_comm (i := 17) (j := 26) _ _ (by omega), List.set_comm (i := 17) (j := 25) _ _ (by omega), List.set_comm (i := 17) (j := 18) _ _ (by omega)] at hb6
  refine ⟨v', rfl, fed_at HRG.out HF.out HCH.out hlen m1 m2 HO.out hk6 hb6, HROW'.out.kp hk6 HVP.out, HGR.out, p :: ps, (HKG.out.mono (fun b hb => List.mem_cons_of_mem _ hb)).trans (hk6.mono (by simp)), fun b hb => ?_⟩
  rcases List.mem_cons.1 hb with rfl | hb
  · exact .inl (k.mp b)
  · exact .inr (HPS.out b hb)
end Go.Proofs.YtocbbekciphjgaaDoor.Qd
/- QdI -/
/- The parts of yaml_parser_scan_flow_scalar, its frames, and what stands in memory. Printed by genQdI.py. -/
namespace Go.Proofs.YtocbbekciphjgaaDoor.Qd
open Go.RowKit Go.Proofs.YtocbbekciphjgaaDoor.Rdp Go.Proofs.YtocbbekciphjgaaDoor.Pa Go.Proofs.YtocbbekciphjgaaDoor.Sc
set_option linter.unusedVariables false
set_option linter.unusedSimpArgs false
/-- A part of a code: 0 the first, or inner, one; 1 the second one. -/
def child (k : Nat) : Code → Code
  | .seq a b => match k with
    | 0 => a
    | _ => b
  | .cond _ a b => match k with
    | 0 => a
    | _ => b
  | .block _ c => c
  | .loop c => c
  | c => c
def part : List Nat → Code → Code
  | [], c => c
  | k :: l, c => part l (child k c)
noncomputable def cA : Code := Tryd.f78.body.getD .skip
noncomputable def cLoop : Code := part [1, 1, 1, 1, 0, 0] cA
noncomputable def cX : Code := part [1, 1, 1, 1, 0, 0, 0, 0] cA
noncomputable def cTail : Code := part [1, 1, 1, 1, 1] cA
noncomputable def cU : Code := part [0] cX
noncomputable def cM : Code := part [1, 0] cX
noncomputable def cZ : Code := part [1, 1, 0] cX
noncomputable def cS : Code := part [1, 1, 1, 0] cX
noncomputable def cC : Code := part [1, 1, 1, 1, 0, 0, 0] cX
noncomputable def cV : Code := part [1, 1, 1, 1, 1, 0] cX
noncomputable def cQ : Code := part [1, 1, 1, 1, 1, 1, 0] cX
noncomputable def cD : Code := part [1, 1, 1, 1, 1, 1, 1, 0, 0, 0] cX
noncomputable def cJ : Code := part [1, 1, 1, 1, 1, 1, 1, 1] cX
noncomputable def cH : Code := part [0] cC
noncomputable def cE : Code := part [1, 0, 0] cC
noncomputable def cW : Code := part [1, 0, 1] cC
noncomputable def c14 : Code := part [0] cE
noncomputable def cTwo : Code := part [1, 0] cE
noncomputable def cE1 : Code := part [1, 1] cE
noncomputable def c18 : Code := part [0] cE1
noncomputable def cE2 : Code := part [1, 1] cE1
noncomputable def c19 : Code := part [0] cE2
noncomputable def cE3 : Code := part [1, 1] cE2
noncomputable def c20 : Code := part [0] cE3
noncomputable def cBrk : Code := part [1, 0] cE3
noncomputable def cE4 : Code := part [1, 1] cE3
noncomputable def c26 : Code := part [0] cE4
noncomputable def cEsc : Code := part [1, 0] cE4
noncomputable def c111 : Code := part [1, 1] cE4
theorem cX_eq : cX = .seq cU (.seq cM (.seq cZ (.seq cS (.seq (.block 2 (.loop cC)) (.seq cV (.seq cQ (.seq (.block 9 (.loop cD)) cJ))))))) := by kernel_rfl
theorem cLoop_eq : cLoop = .loop (.block 1 cX) := by kernel_rfl
theorem cC_eq : cC = .seq cH (.block 3 (.seq cE cW)) := by kernel_rfl
theorem cE_eq : cE = .seq c14 (.cond (.tmp 188) cTwo cE1) := by kernel_rfl
theorem cE1_eq : cE1 = .seq c18 (.cond (.tmp 209) (.exit 2) cE2) := by kernel_rfl
theorem cE2_eq : cE2 = .seq c19 (.cond (.tmp 224) (.exit 2) cE3) := by kernel_rfl
theorem cE3_eq : cE3 = .seq c20 (.cond (.tmp 251) cBrk cE4) := by kernel_rfl
theorem cE4_eq : cE4 = .seq c26 (.cond (.tmp 280) cEsc c111) := by kernel_rfl
set_option maxRecDepth 1000000 in
theorem lit717 (a : Act) (h : a.tmps.size = 717) (hd : a.defers = []) : a = ⟨#[gt a 0, gt a 1, gt a 2, gt a 3, gt a 4, gt a 5, gt a 6, gt a 7, gt a 8, gt a 9, gt a 10, gt a 11, gt a 12, gt a 13, gt a 14, gt a 15, gt a 16, gt a 17, gt a 18, gt a 19, gt a 20, gt a 21, gt a 22, gt a 23, gt a 24, gt a 25, gt a 26, gt a 27, gt a 28, gt a 29, gt a 30, gt a 31, gt a 32, gt a 33, gt a 34, gt a 35, gt a 36, gt a 37, gt a 38, gt a 39, gt a 40, gt a 41, gt a 42, gt a 43, gt a 44, gt a 45, gt a 46, gt a 47, gt a 48, gt a 49, gt a 50, gt a 51, gt a 52, gt a 53, gt a 54, gt a 55, gt a 56, gt a 57, gt a 58, gt a 59, gt a 60, gt a 61, gt a 62, gt a 63, gt a 64, gt a 65, gt a 66, gt a 67, gt a 68, gt a 69, gt a 70, gt a 71, gt a 72, gt a 73, gt a 74, gt a 75, gt a 76, gt a 77, gt a 78, gt a 79, gt a 80, gt a 81, gt a 82, gt a 83, gt a 84, gt a 85, gt a 86, gt a 87, gt a 88, gt a 89, gt a 90, gt a 91, gt a 92, gt a 93, gt a 94, gt a 95, gt a 96, gt a 97, gt a 98, gt a 99, gt a 100, gt a 101, gt a 102, gt a 103, gt a 104, gt a 105, gt a 106, gt a 107, gt a 108, gt a 109, gt a 110, gt a 111, gt a 112, gt a 113, gt a 114, gt a 115, gt a 116, gt a 117, gt a 118, gt a 119, gt a 120, gt a 121, gt a 122, gt a 123, gt a 124, gt a 125, gt a 126, gt a 127, gt a 128, gt a 129, gt a 130, gt a 131, gt a 132, gt a 133, gt a 134, gt a 135, gt a 136, gt a 137, gt a 138, gt a 139, gt a 140, gt a 141, gt a 142, gt a 143, gt a 144, gt a 145, gt a 146, gt a 147, gt a 148, gt a 149, gt a 150, gt a 151, gt a 152, gt a 153, gt a 154, gt a 155, gt a 156, gt a 157, gt a 158, gt a 159, gt a 160, gt a 161, gt a 162, gt a 163, gt a 164, gt a 165, gt a 166, gt a 167, gt a 168, gt a 169, gt a 170, gt a 171, gt a 172, gt a 173, gt a 174, gt a 175, gt a 176, gt a 177, gt a 178, gt a 179, gt a 180, gt a 181, gt a 182, gt a 183, gt a 184, gt a 185, gt a 186, gt a 187, gt a 188, gt a 189, gt a 190, gt a 191, gt a 192, gt a 193, gt a 194, gt a 195, gt a 196, gt a 197, gt a 198, gt a 199, gt a 200, gt a 201, gt a 202, gt a 203, gt a 204, gt a 205, gt a 206, gt a 207, gt a 208, gt a 209, gt a 210, gt a 211, gt a 212, gt a 213, gt a 214, gt a 215, gt a 216, gt a 217, gt a 218, gt a 219, gt a 220, gt a 221, gt a 222, gt a 223, gt a 224, gt a 225, gt a 226, gt a 227, gt a 228, gt a 229, gt a 230, gt a 231, gt a 232, gt a 233, gt a 234, gt a 235, gt a 236, gt a 237, gt a 238, gt a 239, gt a 240, gt a 241, gt a 242, gt a 243, gt a 244, gt a 245, gt a 246, gt a 247, gt a 248, gt a 249, gt a 250, gt a 251, gt a 252, gt a 253, gt a 254, gt a 255, gt a 256, gt a 257, gt a 258, gt a 259, gt a 260, gt a 261, gt a 262, gt a 263, gt a 264, gt a 265, gt a 266, gt a 267, gt a 268, gt a 269, gt a 270, gt a 271, gt a 272, gt a 273, gt a 274, gt a 275, gt a 276, gt a 277, gt a 278, gt a 279, gt a 280, gt a 281, gt a 282, gt a 283, gt a 284, gt a 285, gt a 286, gt a 287, gt a 288, gt a 289, gt a 290, gt a 291, gt a 292, gt a 293, gt a 294, gt a 295, gt a 296, gt a 297, gt a 298, gt a 299, gt a 300, gt a 301, gt a 302, gt a 303, gt a 304, gt a 305, gt a 306, gt a 307, gt a 308, gt a 309, gt a 310, gt a 311, gt a 312, gt a 313, gt a 314, gt a 315, gt a 316, gt a 317, gt a 318, gt a 319, gt a 320, gt a 321, gt a 322, gt a 323, gt a 324, gt a 325, gt a 326, gt a 327, gt a 328, gt a 329, gt a 330, gt a 331, gt a 332, gt a 333, gt a 334, gt a 335, gt a 336, gt a 337, gt a 338, gt a 339, gt a 340, gt a 341, gt a 342, gt a 343, gt a 344, gt a 345, gt a 346, gt a 347, gt a 348, gt a 349, gt a 350, gt a 351, gt a 352, gt a 353, gt a 354, gt a 355, gt a 356, gt a 357, gt a 358, gt a 359, gt a 360, gt a 361, gt a 362, gt a 363, gt a 364, gt a 365, gt a 366, gt a 367, gt a 368, gt a 369, gt a 370, gt a 371, gt a 372, gt a 373, gt a 374, gt a 375, gt a 376, gt a 377, gt a 378, gt a 379, gt a 380, gt a 381, gt a 382, gt a 383, gt a 384, gt a 385, gt a 386, gt a 387, gt a 388, gt a 389, gt a 390, gt a 391, gt a 392, gt a 393, gt a 394, gt a 395, gt a 396, gt a 397, gt a 398, gt a 399, gt a 400, gt a 401, gt a 402, gt a 403, gt a 404, gt a 405, gt a 406, gt a 407, gt a 408, gt a 409, gt a 410, gt a 411, gt a 412, gt a 413, gt a 414, gt a 415, gt a 416, gt a 417, gt a 418, gt a 419, gt a 420, gt a 421, gt a 422, gt a 423, gt a 424, gt a 425, gt a 426, gt a 427, gt a 428, gt a 429, gt a 430, gt a 431, gt a 432, gt a 433, gt a 434, gt a 435, gt a 436, gt a 437, gt a 438, gt a 439, gt a 440, gt a 441, gt a 442, gt a 443, gt a 444, gt a 445, gt a 446, gt a 447, gt a 448, gt a 449, gt a 450, gt a 451, gt a 452, gt a 453, gt a 454, gt a 455, gt a 456, gt a 457, gt a 458, gt a 459, gt a 460, gt a 461, gt a 462, gt a 463, gt a 464, gt a 465, gt a 466, gt a 467, gt a 468, gt a 469, gt a 470, gt a 471, gt a 472, gt a 473, gt a 474, gt a 475, gt a 476, gt a 477, gt a 478, gt a 479, gt a 480, gt a 481, gt a 482, gt a 483, gt a 484, gt a 485, gt a 486, gt a 487, gt a 488, gt a 489, gt a 490, gt a 491, gt a 492, gt a 493, gt a 494, gt a 495, gt a 496, gt a 497, gt a 498, gt a 499, gt a 500, gt a 501, gt a 502, gt a 503, gt a 504, gt a 505, gt a 506, gt a 507, gt a 508, gt a 509, gt a 510, gt a 511, gt a 512, gt a 513, gt a 514, gt a 515, gt a 516, gt a 517, gt a 518, gt a 519, gt a 520, gt a 521, gt a 522, gt a 523, gt a 524, gt a 525, gt a 526, gt a 527, gt a 528, gt a 529, gt a 530, gt a 531, gt a 532, gt a 533, gt a 534, gt a 535, gt a 536, gt a 537, gt a 538, gt a 539, gt a 540, gt a 541, gt a 542, gt a 543, gt a 544, gt a 545, gt a 546, gt a 547, gt a 548, gt a 549, gt a 550, gt a 551, gt a 552, gt a 553, gt a 554, gt a 555, gt a 556, gt a 557, gt a 558, gt a 559, gt a 560, gt a 561, gt a 562, gt a 563, gt a 564, gt a 565, gt a 566, gt a 567, gt a 568, gt a 569, gt a 570, gt a 571, gt a 572, gt a 573, gt a 574, gt a 575, gt a 576, gt a 577, gt a 578, gt a 579, gt a 580, gt a 581, gt a 582, gt a 583, gt a 584, gt a 585, gt a 586, gt a 587, gt a 588, gt a 589, gt a 590, gt a 591, gt a 592, gt a 593, gt a 594, gt a 595, gt a 596, gt a 597, gt a 598, gt a 599, gt a 600, gt a 601, gt a 602, gt a 603, gt a 604, gt a 605, gt a 606, gt a 607, gt a 608, gt a 609, gt a 610, gt a 611, gt a 612, gt a 613, gt a 614, gt a 615, gt a 616, gt a 617, gt a 618, gt a 619, gt a 620, gt a 621, gt a 622, gt a 623, gt a 624, gt a 625, gt a 626, gt a 627, gt a 628, gt a 629, gt a 630, gt a 631, gt a 632, gt a 633, gt a 634, gt a 635, gt a 636, gt a 637, gt a 638, gt a 639, gt a 640, gt a 641, gt a 642, gt a 643, gt a 644, gt a 645, gt a 646, gt a 647, gt a 648, gt a 649, gt a 650, gt a 651, gt a 652, gt a 653, gt a 654, gt a 655, gt a 656, gt a 657, gt a 658, gt a 659, gt a 660, gt a 661, gt a 662, gt a 663, gt a 664, gt a 665, gt a 666, gt a 667, gt a 668, gt a 669, gt a 670, gt a 671, gt a 672, gt a 673, gt a 674, gt a 675, gt a 676, gt a 677, gt a 678, gt a 679, gt a 680, gt a 681, gt a 682, gt a 683, gt a 684, gt a 685, gt a 686, gt a 687, gt a 688, gt a 689, gt a 690, gt a 691, gt a 692, gt a 693, gt a 694, gt a 695, gt a 696, gt a 697, gt a 698, gt a 699, gt a 700, gt a 701, gt a 702, gt a 703, gt a 704, gt a 705, gt a 706, gt a 707, gt a 708, gt a 709, gt a 710, gt a 711, gt a 712, gt a 713, gt a 714, gt a 715, gt a 716], []⟩ := act_lit 717 a h hd
/-- A frame: the parser, the token, whether the quotes are single ones, the mark of the beginning, the four slices, whether a break has been seen. -/
structure Fm (sg : Bool) (p t mk : Nat) (sv lbv tbv wsv : Value) (lb : Bool) (a : Act) : Prop where
  size : a.tmps.size = 717
  defers : a.defers = []
  s0 : gt a 0 = .pointer (some ⟨p, 0, none⟩)
  s1 : gt a 1 = .pointer (some ⟨t, 0, none⟩)
  s2 : gt a 2 = .bool sg
  s7 : gt a 7 = .pointer (some ⟨mk, 0, none⟩)
  s8 : gt a 8 = sv
  s9 : gt a 9 = lbv
  s10 : gt a 10 = tbv
  s11 : gt a 11 = wsv
  s12 : gt a 12 = .bool lb
/-- What does not turn. -/
structure Cx (k : Kn) (p mk lo : Nat) (s0 s1 s2 : Int) (L0 : List Value) (w1 : World) : Prop where
  round : RoundOk k p
  far : ∀ g, lo ≤ g → Far k p g
  low : w1.heap.size = lo
  two : 2 < lo
  mark : Bk w1 mk 74 [.int .i64 s0, .int .i64 s1, .int .i64 s2]
  own : mk ∉ k.bs p
  cells : Cells L0
/-- What stands in memory: where the scanner stands, and what the four slices hold. -/
structure St (k : Kn) (p lo : Nat) (L0 : List Value) (w1 : World) (c u col : Nat) (rest s lb tb ws : List Int) (sv lbv tbv wsv : Value) (w : World) : Prop where
  here : At k p L0 c u col rest w
  kp : Kp (k.bs p) w1 w
  r8 : Row lo w sv s
  r9 : Row lo w lbv lb
  r10 : Row lo w tbv tb
  r11 : Row lo w wsv ws
  a89 : Sep sv lbv
  a80 : Sep sv tbv
  a81 : Sep sv wsv
  a90 : Sep lbv tbv
  a91 : Sep lbv wsv
  a01 : Sep tbv wsv
  sz : s.length + lb.length + tb.length + ws.length ≤ 4 * c
theorem St.drewN {k : Kn} {p lo : Nat} {L0 : List Value} {w1 : World} {c u col : Nat} {rest s lb tb ws : List Int} {sv lbv tbv wsv : Value} {w : World} (h : St k p lo L0 w1 c u col rest s lb tb ws sv lbv tbv wsv w) (n : Nat) : St k p lo L0 w1 c u col rest s lb tb ws sv lbv tbv wsv (w.drewN n) :=
  ⟨h.here.drewN n, h.kp.drewN n, h.r8, h.r9, h.r10, h.r11, h.a89, h.a80, h.a81, h.a90, h.a91, h.a01, h.sz⟩
/-- The parser has gone on. -/
theorem St.turn {k : Kn} {p lo : Nat} {L0 : List Value} {w1 : World} {c u col : Nat} {rest s lb tb ws : List Int} {sv lbv tbv wsv : Value} {w w' : World} {c' u' col' : Nat} {rest' : List Int} (h : St k p lo L0 w1 c u col rest s lb tb ws sv lbv tbv wsv w) (hf : ∀ g, lo ≤ g → Far k p g) (hk : Kp (k.bs p) w w') (ha : At k p L0 c' u' col' rest' w') (hc : c ≤ c') :
    St k p lo L0 w1 c' u' col' rest' s lb tb ws sv lbv tbv wsv w' := by
  have own : ∀ {v : Value} {l : List Int}, Row lo w v l → Row lo w' v l := fun h => h.kp hk (fun b hb hh => (hf b (h.own b hb).1).1 hh)
  exact ⟨ha, h.kp.trans hk, own h.r8, own h.r9, own h.r10, own h.r11, h.a89, h.a80, h.a81, h.a90, h.a91, h.a01, by have := h.sz; omega⟩
theorem gave_kp {k : Kn} {p lo : Nat} {w1 w w' : World} {v v' : Value} {l l0 : List Int} (hk : Kp (k.bs p) w1 w) (hlo : w1.heap.size = lo) (hr : Row lo w v l0) (hg : Gave k p lo v v' l w w') : Kp (k.bs p) w1 w' := by
  obtain ⟨_, _, ps, h3, h4⟩ := hg
  exact Kp.trans_new hk h3 (fun b hb => (h4 b hb).imp id (fun e => by rw [hlo]; exact (hr.own b e).1))
theorem gave_row {k : Kn} {p lo : Nat} {w w' : World} {v v' u : Value} {l m : List Int} (hf : ∀ g, lo ≤ g → Far k p g) (hg : Gave k p lo v v' l w w') (hr : Row lo w u m) (hs : Sep v u) : Row lo w' u m := by
  obtain ⟨_, _, ps, h3, h4⟩ := hg
  refine hr.kp h3 (fun b hb hh => ?_)
  rcases h4 b hh with h | h
  · exact (hf b (hr.own b hb).1).1 h
  · exact hs b h hb
theorem gave_sep {k : Kn} {p lo : Nat} {w w' : World} {v v' u : Value} {l m : List Int} (hg : Gave k p lo v v' l w w') (hr : Row lo w u m) (hs : Sep v u) : Sep v' u := hg.2.1.sep hs (fun g h => (hr.own g h).2)
theorem St.gave8 {k : Kn} {p lo : Nat} {L0 : List Value} {w1 : World} {c u col : Nat} {rest s lb tb ws : List Int} {sv lbv tbv wsv : Value} {w w' : World} {c' u' col' : Nat} {rest' l' : List Int} {v' : Value} (h : St k p lo L0 w1 c u col rest s lb tb ws sv lbv tbv wsv w) (hf : ∀ g, lo ≤ g → Far k p g) (hlo : w1.heap.size = lo) (hg : Gave k p lo sv v' l' w w') (ha : At k p L0 c' u' col' rest' w') (hsz : l'.length + lb.length + tb.length + ws.length ≤ 4 * c') :
    St k p lo L0 w1 c' u' col' rest' l' lb tb ws v' lbv tbv wsv w' :=
  ⟨ha, gave_kp h.kp hlo h.r8 hg, hg.1, gave_row hf hg h.r9 h.a89, gave_row hf hg h.r10 h.a80, gave_row hf hg h.r11 h.a81, gave_sep hg h.r9 h.a89, gave_sep hg h.r10 h.a80, gave_sep hg h.r11 h.a81, h.a90, h.a91, h.a01, hsz⟩
theorem St.gave9 {k : Kn} {p lo : Nat} {L0 : List Value} {w1 : World} {c u col : Nat} {rest s lb tb ws : List Int} {sv lbv tbv wsv : Value} {w w' : World} {c' u' col' : Nat} {rest' l' : List Int} {v' : Value} (h : St k p lo L0 w1 c u col rest s lb tb ws sv lbv tbv wsv w) (hf : ∀ g, lo ≤ g → Far k p g) (hlo : w1.heap.size = lo) (hg : Gave k p lo lbv v' l' w w') (ha : At k p L0 c' u' col' rest' w') (hsz : s.length + l'.length + tb.length + ws.length ≤ 4 * c') :
    St k p lo L0 w1 c' u' col' rest' s l' tb ws sv v' tbv wsv w' :=
  ⟨ha, gave_kp h.kp hlo h.r9 hg, gave_row hf hg h.r8 h.a89.symm, hg.1, gave_row hf hg h.r10 h.a90, gave_row hf hg h.r11 h.a91, (gave_sep hg h.r8 h.a89.symm).symm, h.a80, h.a81, gave_sep hg h.r10 h.a90, gave_sep hg h.r11 h.a91, h.a01, hsz⟩
theorem St.gave10 {k : Kn} {p lo : Nat} {L0 : List Value} {w1 : World} {c u col : Nat} {rest s lb tb ws : List Int} {sv lbv tbv wsv : Value} {w w' : World} {c' u' col' : Nat} {rest' l' : List Int} {v' : Value} (h : St k p lo L0 w1 c u col rest s lb tb ws sv lbv tbv wsv w) (hf : ∀ g, lo ≤ g → Far k p g) (hlo : w1.heap.size = lo) (hg : Gave k p lo tbv v' l' w w') (ha : At k p L0 c' u' col' rest' w') (hsz : s.length + lb.length + l'.length + ws.length ≤ 4 * c') :
    St k p lo L0 w1 c' u' col' rest' s lb l' ws sv lbv v' wsv w' :=
  ⟨ha, gave_kp h.kp hlo h.r10 hg, gave_row hf hg h.r8 h.a80.symm, gave_row hf hg h.r9 h.a90.symm, hg.1, gave_row hf hg h.r11 h.a01, h.a89, (gave_sep hg h.r8 h.a80.symm).symm, h.a81, (gave_sep hg h.r9 h.a90.symm).symm, h.a91, gave_sep hg h.r11 h.a01, hsz⟩
theorem St.gave11 {k : Kn} {p lo : Nat} {L0 : List Value} {w1 : World} {c u col : Nat} {rest s lb tb ws : List Int} {sv lbv tbv wsv : Value} {w w' : World} {c' u' col' : Nat} {rest' l' : List Int} {v' : Value} (h : St k p lo L0 w1 c u col rest s lb tb ws sv lbv tbv wsv w) (hf : ∀ g, lo ≤ g → Far k p g) (hlo : w1.heap.size = lo) (hg : Gave k p lo wsv v' l' w w') (ha : At k p L0 c' u' col' rest' w') (hsz : s.length + lb.length + tb.length + l'.length ≤ 4 * c') :
    St k p lo L0 w1 c' u' col' rest' s lb tb l' sv lbv tbv v' w' :=
  ⟨ha, gave_kp h.kp hlo h.r11 hg, gave_row hf hg h.r8 h.a81.symm, gave_row hf hg h.r9 h.a91.symm, gave_row hf hg h.r10 h.a01.symm, hg.1, h.a89, h.a80, (gave_sep hg h.r8 h.a81.symm).symm, h.a90, (gave_sep hg h.r9 h.a91.symm).symm, (gave_sep hg h.r10 h.a01.symm).symm, hsz⟩
end Go.Proofs.YtocbbekciphjgaaDoor.Qd
