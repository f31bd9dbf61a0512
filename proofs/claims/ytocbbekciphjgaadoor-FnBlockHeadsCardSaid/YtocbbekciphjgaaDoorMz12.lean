/- PaM, PaN, PaO: parts of the proof, one behind another. -/
import Derived.Outline
import Derived.Deep.Cut
import Derived.Deep.CutRange
import Derived.WalkMore
import Derived.Test.YtocbbekciphjgaaDoorMz11
/- PaM -/
/- One character is decoded (yaml_parser_update_buffer, the inner loop's round): the walks. -/
namespace Go.Proofs.YtocbbekciphjgaaDoor.Pa
open Go.RowKit Go.Proofs.YtocbbekciphjgaaDoor.Rdp
set_option linter.unusedVariables false
set_option linter.unusedSimpArgs false
theorem bits_all : ∀ k : Fin 256, (Go.bits .and .u8 (k.val : Int) 128 == 0) = decide (k.val < 128) ∧ (Go.bits .and .u8 (k.val : Int) 224 == 192) = decide (192 ≤ k.val ∧ k.val < 224) ∧
    (Go.bits .and .u8 (k.val : Int) 240 == 224) = decide (224 ≤ k.val ∧ k.val < 240) ∧ (Go.bits .and .u8 (k.val : Int) 248 == 240) = decide (240 ≤ k.val ∧ k.val < 248) ∧
    (Go.bits .and .u8 (k.val : Int) 192 != 128) = !decide (128 ≤ k.val ∧ k.val < 192) ∧ Go.bits .and .u8 (k.val : Int) 127 = (k.val : Int) % 128 ∧ Go.bits .and .u8 (k.val : Int) 31 = (k.val : Int) % 32 ∧ Go.bits .and .u8 (k.val : Int) 15 = (k.val : Int) % 16 ∧
    Go.bits .and .u8 (k.val : Int) 7 = (k.val : Int) % 8 ∧ Go.bits .and .u8 (k.val : Int) 63 = (k.val : Int) % 64 := by decide +kernel
theorem bits_at (x : Int) (h0 : 0 ≤ x) (h1 : x ≤ 255) : (Go.bits .and .u8 x 128 == 0) = decide (x < 128) ∧ (Go.bits .and .u8 x 224 == 192) = decide (192 ≤ x ∧ x < 224) ∧
    (Go.bits .and .u8 x 240 == 224) = decide (224 ≤ x ∧ x < 240) ∧ (Go.bits .and .u8 x 248 == 240) = decide (240 ≤ x ∧ x < 248) ∧ (Go.bits .and .u8 x 192 != 128) = !decide (128 ≤ x ∧ x < 192) ∧ Go.bits .and .u8 x 127 = x % 128 ∧ Go.bits .and .u8 x 31 = x % 32 ∧ Go.bits .and .u8 x 15 = x % 16 ∧ Go.bits .and .u8 x 7 = x % 8 ∧ Go.bits .and .u8 x 63 = x % 64 := by
  obtain ⟨n, rfl⟩ := Int.eq_ofNat_of_zero_le h0
  obtain ⟨a, b, c, d, e, f⟩ := bits_all ⟨n, by omega⟩
  refine ⟨a.trans ?_, b.trans ?_, c.trans ?_, d.trans ?_, e.trans ?_, f⟩
  all_goals first | (rw [decide_eq_decide]; simp only; omega) | (rw [Bool.not_eq_not, decide_eq_decide]; simp only; omega) | (congr 1; rw [decide_eq_decide]; simp only; omega)
theorem Inn.drewN {k : Kn} {p c u bl rl rpos ip : Nat} {eof : Bool} {L0 L RL BL : List Value} {w0 w : World} (h : Inn k p c u bl rl rpos ip eof L0 L RL BL w0 w) (n : Nat) : Inn k p c u bl rl rpos ip eof L0 L RL BL w0 (w.drewN n) :=
  ⟨h.lay.drewN n, h.at16, h.at22, h.ok, h.old, h.kp.drewN n, h.size⟩
/-- The slots that outlive a round. -/
structure Fr (a a' : Act) (b : Nat) : Prop where
  size : a'.tmps.size = 690
  defers : a'.defers = []
  s0 : gt a' 0 = gt a 0
  s1 : gt a' 1 = gt a 1
  s5 : gt a' 5 = .int .i64 (b : Nat)
  s6 : gt a' 6 = gt a 6
set_option maxHeartbeats 8000000 in
set_option maxRecDepth 100000 in
theorem in1 {k : Kn} {p c u b rl rpos ip : Nat} {eof : Bool} {L0 L RL BL : List Value} {w0 w : World} {a : Act} {K : Act → World → Prop} {Q : Exit → Act → World → Prop} (hI : Inn k p c u b rl rpos ip eof L0 L RL BL w0 w) (hA : ModeA k.T c u b (rl - rpos) ip) (hb : b + (rl - rpos) ≤ 540) (hlt : rpos < rl)
    (hx : Ok1 (S k.T (ip - (rl - rpos)))) (hnx : nx k.T (ip - (rl - rpos)) = ip - (rl - rpos) + 1) (hsz : a.tmps.size = 690) (hdf : a.defers = []) (h0 : gt a 0 = .pointer (some ⟨p, 0, none⟩)) (h5 : gt a 5 = .int .i64 (b : Nat))
    (hK : ∀ a' w' L' BL', Fr a a' (b + 1) → Inn k p c (u + 1) (b + 1) rl (rpos + 1) ip eof L0 L' RL BL' w0 w' → ModeA k.T c (u + 1) (b + 1) (rl - (rpos + 1)) ip → b + 1 + (rl - (rpos + 1)) ≤ 540 → K a' w') :
    iBody.wp Tryd.prog (Exit.then K Q) a w := by
  have hl := hI.lay
  have hraw := hl.raw 0 (by omega)
  rw [Nat.add_zero, Nat.add_zero] at hraw
  obtain ⟨x, HX⟩ : ∃ x, Hid (x = S k.T (ip - (rl - rpos))) := ⟨_, rfl⟩
  rw [← HX.out] at hraw hx
  have hx0 : 0 ≤ x ∧ x < 127 := by unfold Ok1 at hx; omega
  obtain ⟨t1, t2, t3, t4, t5, t6, _⟩ := bits_at x hx0.1 (by omega)
  rw [show x % 128 = x by omega] at t6
  rw [show decide (x < 128) = true by simp; omega] at t1
  obtain ⟨x0, x1⟩ := hx0
  obtain ⟨c16, f16⟩ := hl.pb.at 16 hI.at16
  obtain ⟨c18, f18⟩ := hl.pb.at 18 hl.at18
  obtain ⟨c20, f20⟩ := hl.pb.at 20 hl.at20
  obtain ⟨c21, f21⟩ := hl.pb.at 21 hl.at21
  obtain ⟨c22, f22⟩ := hl.pb.at 22 hI.at22
  obtain ⟨c23, f23⟩ := hl.pb.at 23 hl.at23
  obtain ⟨cr, fr⟩ := hl.rb.at rpos hraw
  unfold by8 at cr
  have hHI := Lib.hid hI
  have hHA := Lib.hid hA
  have HKK := Lib.hid hK
  have e1 : ((rpos : Int) != (rl : Int)) = true := by rw [bne_iff_ne]; omega
  have e2 : (rpos != rl) = true := by rw [bne_iff_ne]; omega
  have e3 : (rpos : Int) ≤ (rl : Int) := by omega
  have e4 : (rl : Int) ≤ 512 := by have := hl.hrl; omega
  have e5 : (0 : Int) ≤ (rpos : Int) := by omega
  have e6 : (rpos : Int) < (rl : Int) := by omega
  rw [lit690 a hsz hdf, h0, h5]
  have HOX := Lib.hid hx
  obtain ⟨off, HOFF⟩ : ∃ off : Nat, Hid (ip - (rl - rpos) = off) := ⟨_, rfl⟩
  have e11 : (off : Int) ≤ 2147483647 := by have := hI.ok.tlen; have := hl.hip; have := HOFF.out; omega
  rw [HOFF.out] at c23
  have hpq : ¬ p = k.q := hI.ok.pq
  have hqp : ¬ k.q = p := Ne.symm hI.ok.pq
  obtain ⟨y, hy⟩ := hl.qall b (by omega)
  have cq : w.cell? ⟨k.q, b, none⟩ = some (by8 y) := ((hl.qb.cell b).1).trans hy
  have fq : w.frozen? ⟨k.q, b, none⟩ = false := (hl.qb.cell b).2
  have e7 : (b : Int) < 1536 := by omega
  have e8 : (0 : Int) ≤ (b : Int) := by omega
  have e9 : (rpos : Int) + 1 ≤ 512 := by omega
  have e10 : (u : Int) ≤ 1000 := by have := hA.at1; have := hA.at2; have := adv_ge k.T c u; omega
  clear hI hA hK hl hraw hx hy
  conv => arg 2; whnf
  go_wp2_with fail
  go_quiet (fail)
  go_wp2_with fail
  go_quiet (fail)
  go_wp2_with fail
  go_quiet (fail)
  go_wp2_with fail
  refine wp_loop_rounds 1 ?_
  rw [rounds_succ]
  clear t1 t2 t3 t4 t5 t6
  have u1 : decide (55296 ≤ x) = false := by simp; omega
  have u2 : decide (1114111 < x) = false := by simp; omega
  have u3 : decide (x ≤ 127) = true := by simp; omega
  obtain ⟨z9, z10, z13, z32, hz, hz9, hz10, hz13, hz32⟩ : ∃ z9 z10 z13 z32 : Bool, (z9 || (z10 || (z13 || z32))) = true ∧ (x == 9) = z9 ∧ (x == 10) = z10 ∧ (x == 13) = z13 ∧ (decide (32 ≤ x) && decide (x ≤ 126)) = z32 := by
    refine ⟨_, _, _, _, ?_, rfl, rfl, rfl, rfl⟩
    have := HOX.out
    unfold Ok1 at this
    simp
    omega
  have HZ := Lib.hid hz
  have HZ32 := Lib.hid hz32
  clear hz hz32
  have hways : z9 = true ∨ (z9 = false ∧ z10 = true) ∨ (z9 = false ∧ z10 = false ∧ z13 = true) ∨ (z9 = false ∧ z10 = false ∧ z13 = false ∧ z32 = true) := by
    have := HZ.out
    cases z9 <;> cases z10 <;> cases z13 <;> cases z32 <;> simp_all
  clear HZ
  rcases hways with rfl | ⟨rfl, rfl⟩ | ⟨rfl, rfl, rfl⟩ | ⟨rfl, rfl, rfl, rfl⟩
  · go_wp2_with fail
    have hfin := fun N => (hHI.out.drewN N).eat1 hHA.out (by omega) hnx hb (v18 := (u : Int) + 1) (v21 := (rpos : Int) + 1) (v23 := (off : Int) + 1) (x0 := x) (by omega) (by omega) (by have := HOFF.out; omega) HX.out
    exact HKK.out _ _ _ _ ⟨rfl, rfl, by rw [h0]; rfl, rfl, rfl, rfl⟩ (hfin _).1 (hfin 0).2.1 (hfin 0).2.2
  · go_wp2_with fail
    have hfin := fun N => (hHI.out.drewN N).eat1 hHA.out (by omega) hnx hb (v18 := (u : Int) + 1) (v21 := (rpos : Int) + 1) (v23 := (off : Int) + 1) (x0 := x) (by omega) (by omega) (by have := HOFF.out; omega) HX.out
    exact HKK.out _ _ _ _ ⟨rfl, rfl, by rw [h0]; rfl, rfl, rfl, rfl⟩ (hfin _).1 (hfin 0).2.1 (hfin 0).2.2
  · go_wp2_with fail
    have hfin := fun N => (hHI.out.drewN N).eat1 hHA.out (by omega) hnx hb (v18 := (u : Int) + 1) (v21 := (rpos : Int) + 1) (v23 := (off : Int) + 1) (x0 := x) (by omega) (by omega) (by have := HOFF.out; omega) HX.out
    exact HKK.out _ _ _ _ ⟨rfl, rfl, by rw [h0]; rfl, rfl, rfl, rfl⟩ (hfin _).1 (hfin 0).2.1 (hfin 0).2.2
  · have v1 : decide (32 ≤ x) = true := by have := HZ32.out; rw [Bool.and_eq_true] at this; exact this.1
    have v2 : decide (x ≤ 126) = true := by have := HZ32.out; rw [Bool.and_eq_true] at this; exact this.2
    go_wp2_with fail
    have hfin := fun N => (hHI.out.drewN N).eat1 hHA.out (by omega) hnx hb (v18 := (u : Int) + 1) (v21 := (rpos : Int) + 1) (v23 := (off : Int) + 1) (x0 := x) (by omega) (by omega) (by have := HOFF.out; omega) HX.out
    exact HKK.out _ _ _ _ ⟨rfl, rfl, by rw [h0]; rfl, rfl, rfl, rfl⟩ (hfin _).1 (hfin 0).2.1 (hfin 0).2.2
end Go.Proofs.YtocbbekciphjgaaDoor.Pa
/- PaN -/
/- The raw buffer's characters are decoded, one behind another (yaml_parser_update_buffer, the inner loop). -/
namespace Go.Proofs.YtocbbekciphjgaaDoor.Pa
open Go.RowKit Go.Proofs.YtocbbekciphjgaaDoor.Rdp
set_option linter.unusedVariables false
set_option linter.unusedSimpArgs false
/-- What one round of the inner loop does. -/
def RoundOk (k : Kn) (p : Nat) : Prop := ∀ (c u b rl rpos ip : Nat) (eof : Bool) (L0 L RL BL : List Value) (w0 w : World) (a : Act) (K : Act → World → Prop) (Q : Exit → Act → World → Prop), Inn k p c u b rl rpos ip eof L0 L RL BL w0 w → ModeA k.T c u b (rl - rpos) ip →
  b + (rl - rpos) ≤ 540 → rpos < rl → (eof = true → ip = k.T.length) → a.tmps.size = 690 → a.defers = [] → gt a 0 = .pointer (some ⟨p, 0, none⟩) → gt a 5 = .int .i64 (b : Nat) →
  (∀ a' w' m L' BL', 1 ≤ m → m ≤ rl - rpos → Fr a a' (b + m) → Inn k p c (u + 1) (b + m) rl (rpos + m) ip eof L0 L' RL BL' w0 w' → ModeA k.T c (u + 1) (b + m) (rl - (rpos + m)) ip → b + m + (rl - (rpos + m)) ≤ 540 → K a' w') →
  (∀ a' w', ip < nx k.T (ip - (rl - rpos)) → Fr a a' b → Inn k p c u b rl rpos ip eof L0 L RL BL w0 w' → Q (.exit 2) a' w') → iBody.wp Tryd.prog (Exit.then K Q) a w
theorem cw_ok1 {x : Int} (h : Ok1 x) : cw x = 1 := by
  unfold Ok1 at h
  unfold cw
  rw [if_pos (by omega)]
/-- In a text in ASCII. -/
theorem round_ascii (k : Kn) (p : Nat) (h : ∀ i, i < k.T.length → Ok1 (S k.T i)) : RoundOk k p := by
  intro c u b rl rpos ip eof L0 L RL BL w0 w a K Q hI hA hb hlt _ hsz hdf h0 h5 hK _
  have hip := hI.lay.hip
  have hraw := hI.lay.hraw
  have hx := h (ip - (rl - rpos)) (by omega)
  exact in1 hI hA hb hlt hx (by unfold nx; rw [cw_ok1 hx]) hsz hdf h0 h5 fun a' w' L' BL' h1 h2 h3 h4 => hK a' w' 1 L' BL' (Nat.le_refl _) (by omega) h1 h2 h3 h4
set_option maxHeartbeats 4000000 in
set_option maxRecDepth 100000 in
theorem in0 {k : Kn} {p c u b rl ip : Nat} {eof : Bool} {L0 L RL BL : List Value} {w0 w : World} {a : Act} {K : Act → World → Prop} {Q : Exit → Act → World → Prop} (hI : Inn k p c u b rl rl ip eof L0 L RL BL w0 w) (hsz : a.tmps.size = 690) (hdf : a.defers = []) (h0 : gt a 0 = .pointer (some ⟨p, 0, none⟩)) (h5 : gt a 5 = .int .i64 (b : Nat))
    (hX : ∀ a' w', Fr a a' b → Inn k p c u b rl rl ip eof L0 L RL BL w0 w' → Q (.exit 2) a' w') :
    iBody.wp Tryd.prog (Exit.then K Q) a w := by
  have hl := hI.lay
  obtain ⟨c20, f20⟩ := hl.pb.at 20 hl.at20
  obtain ⟨c21, f21⟩ := hl.pb.at 21 hl.at21
  have hHI := Lib.hid hI
  have HX := Lib.hid hX
  have H5 := Lib.hid h5
  rw [lit690 a hsz hdf, h0]
  clear hI hX hl h5
  conv => arg 2; whnf
  go_wp2_with fail
  go_quiet (fail)
  go_wp2_with fail
  exact HX.out _ _ ⟨rfl, rfl, by rw [h0]; rfl, rfl, H5.out, rfl⟩ (hHI.out.drewN _)
theorem Fr.refl {a : Act} {b : Nat} (hsz : a.tmps.size = 690) (hdf : a.defers = []) (h5 : gt a 5 = .int .i64 (b : Nat)) : Fr a a b := ⟨hsz, hdf, rfl, rfl, h5, rfl⟩
theorem Fr.trans {a a1 a2 : Act} {b b' : Nat} (h : Fr a a1 b) (k : Fr a1 a2 b') : Fr a a2 b' := ⟨k.size, k.defers, k.s0.trans h.s0, k.s1.trans h.s1, k.s5, k.s6.trans h.s6⟩
theorem inner {k : Kn} {p c u b rl rpos ip : Nat} {eof : Bool} {L0 L RL BL : List Value} {w0 w : World} {a : Act} {Q : Exit → Act → World → Prop} (hr : RoundOk k p) (he : eof = true → ip = k.T.length) (hI : Inn k p c u b rl rpos ip eof L0 L RL BL w0 w) (hA : ModeA k.T c u b (rl - rpos) ip) (hb : b + (rl - rpos) ≤ 540)
    (hsz : a.tmps.size = 690) (hdf : a.defers = []) (h0 : gt a 0 = .pointer (some ⟨p, 0, none⟩)) (h5 : gt a 5 = .int .i64 (b : Nat))
    (hX : ∀ a' w' u' b' rpos' L' BL', u ≤ u' → Fr a a' b' → Inn k p c u' b' rl rpos' ip eof L0 L' RL BL' w0 w' → ModeA k.T c u' b' (rl - rpos') ip → b' + (rl - rpos') ≤ 540 → (rl = rpos' ∨ ip < nx k.T (ip - (rl - rpos'))) → Q (.exit 2) a' w') :
    (Code.loop iBody).wp Tryd.prog Q a w := by
  refine wp_loop_ghost_k (fun g a1 w1 => ∃ u1 b1 rpos1 L1 BL1, g = rl - rpos1 ∧ u ≤ u1 ∧ Fr a a1 b1 ∧ Inn k p c u1 b1 rl rpos1 ip eof L0 L1 RL BL1 w0 w1 ∧ ModeA k.T c u1 b1 (rl - rpos1) ip ∧ b1 + (rl - rpos1) ≤ 540) (rl - rpos) ⟨u, b, rpos, L, BL, rfl, Nat.le_refl _, Fr.refl hsz hdf h5, hI, hA, hb⟩ ?_
  rintro g a1 w1 ⟨u1, b1, rpos1, L1, BL1, rfl, hu1, hf1, hI1, hA1, hb1⟩ J K hJ hK
  have hrp := hI1.lay.hrpos
  by_cases hlt : rpos1 < rl
  · refine hr c u1 b1 rl rpos1 ip eof L0 L1 RL BL1 w0 w1 a1 K Q hI1 hA1 hb1 hlt he hf1.size hf1.defers (hf1.s0.trans h0) hf1.s5 ?_ ?_
    · intro a' w' m L' BL' hm hm2 hf hI' hA' hb'
      exact hK _ _ (Handed.intro (rl - (rpos1 + m)) (by omega) (hJ _ _ _ ⟨u1 + 1, b1 + m, rpos1 + m, L', BL', rfl, by omega, hf1.trans hf, hI', hA', hb'⟩))
    · intro a' w' hbrk hf hI'
      exact hX _ _ u1 b1 rpos1 L1 BL1 hu1 (hf1.trans hf) hI' hA1 hb1 (.inr hbrk)
  · obtain rfl : rpos1 = rl := by omega
    refine in0 hI1 hf1.size hf1.defers (hf1.s0.trans h0) hf1.s5 ?_
    intro a' w' hf hI'
    exact hX _ _ u1 b1 rpos1 L1 BL1 hu1 (hf1.trans hf) hI' hA1 hb1 (.inl rfl)
end Go.Proofs.YtocbbekciphjgaaDoor.Pa
/- PaO -/
/- The raw buffer is filled and decoded until enough characters lie ready (yaml_parser_update_buffer, the outer loop). -/
namespace Go.Proofs.YtocbbekciphjgaaDoor.Pa
open Go.RowKit Go.Proofs.YtocbbekciphjgaaDoor.Rdp
set_option linter.unusedVariables false
set_option linter.unusedSimpArgs false
/-- The raw buffer has been filled. -/
theorem Inn.filled {k : Kn} {p c u b rl rpos ip : Nat} {L0 L RL BL : List Value} {w0 w w' : World} (h : Inn k p c u b rl rpos ip false L0 L RL BL w0 w) (hf : Filled p k.r k.T L RL rl rpos ip w w') :
    ∃ L' RL', Inn k p c u b (rl - rpos + min (512 - (rl - rpos)) (k.T.length - ip)) 0 (ip + min (512 - (rl - rpos)) (k.T.length - ip)) (decide (ip = k.T.length)) L0 L' RL' BL w0 w' := by
  obtain ⟨L', RL', pb, pl, rb, rn, a14, a15, a20, a21, ao, ro, rs⟩ := hf.ex
  have hl := h.lay
  have ok := h.ok
  have hip := hl.hip
  have hraw := hl.hraw
  have hrl := hl.hrl
  have hsub := ok.sub ok.two
  have kp2 : Kp (k.bs p) w w' := hf.kp.mono fun x hx => by unfold Kn.bs; simp at hx ⊢; omega
  refine ⟨L', RL', ⟨pb, pl, rb, rn, hl.qb.kp hf.kp (by simp; exact ⟨Ne.symm ok.pq, Ne.symm ok.rq⟩), hl.qlen, hl.qall, hl.inp.kp kp2 ok.src, (kp2.cell (x := ⟨2, 0, none⟩) (World.block_lt_of_cell? w ⟨2, 0, none⟩ hl.ev) ok.two).trans hl.ev, ?_, ?_, a14, a15, ?_, ?_, a20, a21, ?_, by omega, by omega, by omega, by omega, hl.hbp, hl.hbl, hl.buf, fun j hj => ?_⟩, ?_, ?_, ok, fun j hj => ?_, h.kp.trans kp2, hf.size.trans h.size⟩
  · rw [ao 11 (by omega) (by omega) (by omega) (by omega)]; exact hl.at11
  · rw [ao 13 (by omega) (by omega) (by omega) (by omega)]; exact hl.at13
  · rw [ao 17 (by omega) (by omega) (by omega) (by omega)]; exact hl.at17
  · rw [ao 18 (by omega) (by omega) (by omega) (by omega)]; exact hl.at18
  · rw [ao 23 (by omega) (by omega) (by omega) (by omega), hl.at23]
    congr 3
    omega
  · rw [Nat.zero_add]
    by_cases hlt : j < rl - rpos
    · rw [ro j hlt, hl.raw j hlt]
      congr 3
      omega
    · obtain ⟨i, rfl⟩ : ∃ i, j = rl - rpos + i := ⟨j - (rl - rpos), by omega⟩
      rw [rs i (by omega)]
      show _ = some (Value.int .u8 (k.T.getD _ 0))
      congr 3
      omega
  · rw [ao 16 (by omega) (by omega) (by omega) (by omega)]; exact h.at16
  · rw [ao 22 (by omega) (by omega) (by omega) (by omega)]; exact h.at22
  · have hj' := hj
    unfold rdOff at hj
    rw [ao j (by omega) (by omega) (by omega) (by omega)]
    exact h.old j hj'
/-- What holds behind the loop where the text has ended. -/
structure OutB (k : Kn) (p c u0 : Nat) (L0 : List Value) (w0 : World) (a' : Act) (w' : World) : Prop where
  size : a'.tmps.size = 690
  defers : a'.defers = []
  ex : ∃ u b rl L RL BL, gt a' 5 = .int .i64 (b : Nat) ∧ u0 ≤ u ∧ 1 ≤ u ∧ Lay k p c u 0 b rl rl k.T.length true L RL BL w' ∧ ModeB k.T c u b 0 k.T.length true ∧ L[16]? = some (.slice (some ⟨k.q, 0, none⟩) 1536 1536) ∧ L[22]? = some (.int .i64 1) ∧
    (∀ j, rdOff j → L[j]? = L0[j]?) ∧ Kp (k.bs p) w0 w' ∧ w'.heap.size = w0.heap.size ∧ b ≤ 541
set_option maxHeartbeats 4000000 in
set_option maxRecDepth 100000 in
theorem out_exit {k : Kn} {p c u b rl rpos ip n : Nat} {eof : Bool} {L0 L RL BL : List Value} {w0 w : World} {a : Act} {K : Act → World → Prop} {Q : Exit → Act → World → Prop} (hI : Inn k p c u b rl rpos ip eof L0 L RL BL w0 w) (hsz : a.tmps.size = 690) (hdf : a.defers = []) (h0 : gt a 0 = .pointer (some ⟨p, 0, none⟩)) (h1 : gt a 1 = .int .i64 (n : Nat)) (h5 : gt a 5 = .int .i64 (b : Nat)) (hn : n ≤ u)
    (hX : ∀ a', Fr a a' b → Q (.exit 0) a' w) :
    oBody.wp Tryd.prog (Exit.then K Q) a w := by
  have hl := hI.lay
  obtain ⟨c18, f18⟩ := hl.pb.at 18 hl.at18
  have HX := Lib.hid hX
  have H5 := Lib.hid h5
  have hd : decide ((u : Int) < (n : Int)) = false := by simp; omega
  have hdn : decide (u < n) = false := by simp; omega
  rw [lit690 a hsz hdf, h0, h1]
  clear hI hX hl h5
  conv => arg 2; whnf
  go_wp2_with fail
  exact HX.out _ ⟨rfl, rfl, by rw [h0]; rfl, by rw [h1]; rfl, H5.out, rfl⟩
/-- What has been laid into the raw buffer, when it is decoded. -/
def Fed (k : Kn) (p c u b : Nat) (L0 BL : List Value) (w0 : World) (m : Nat) (w : World) : Prop :=
  ∃ rl rpos ip eof L RL, Inn k p c u b rl rpos ip eof L0 L RL BL w0 w ∧ ModeA k.T c u b (rl - rpos) ip ∧ (eof = true → ip = k.T.length) ∧ (eof = true ∨ 2 * (k.T.length - ip) < m) ∧ b + (rl - rpos) ≤ 540
set_option maxHeartbeats 16000000 in
set_option maxRecDepth 100000 in
theorem out_round {k : Kn} {p c u b rl rpos ip n : Nat} {eof first : Bool} {L0 L RL BL : List Value} {w0 w : World} {a : Act} {K : Act → World → Prop} {Q : Exit → Act → World → Prop} (hr : RoundOk k p) (hcd : c < k.T.length → Bd k.T c) (hI : Inn k p c u b rl rpos ip eof L0 L RL BL w0 w) (hA : ModeA k.T c u b (rl - rpos) ip) (he : eof = true → ip = k.T.length) (hfst : first = false → eof = false ∧ (rl = rpos ∨ ip < nx k.T (ip - (rl - rpos)))) (hg : 2 < w.heap.size)
    (hsz : a.tmps.size = 690) (hdf : a.defers = []) (h0 : gt a 0 = .pointer (some ⟨p, 0, none⟩)) (h1 : gt a 1 = .int .i64 (n : Nat)) (h5 : gt a 5 = .int .i64 (b : Nat)) (h6 : gt a 6 = .bool first) (hn : u < n) (hn8 : n ≤ 8)
    (hK : ∀ a' w' u' b' rl' rpos' ip' L' RL' BL', a'.tmps.size = 690 → a'.defers = [] → gt a' 0 = gt a 0 → gt a' 1 = gt a 1 → gt a' 5 = .int .i64 (b' : Nat) → gt a' 6 = .bool false → u ≤ u' → Inn k p c u' b' rl' rpos' ip' false L0 L' RL' BL' w0 w' → ModeA k.T c u' b' (rl' - rpos') ip' → (rl' = rpos' ∨ ip' < nx k.T (ip' - (rl' - rpos'))) →
      2 * (k.T.length - ip') < 2 * (k.T.length - ip) + (if first then 1 else 0) → K a' w')
    (hX : ∀ a' w', gt a' 0 = gt a 0 → gt a' 1 = gt a 1 → OutB k p c u L0 w0 a' w' → Q (.exit 0) a' w') :
    oBody.wp Tryd.prog (Exit.then K Q) a w := by
  have hl := hI.lay
  have ok := hI.ok
  have hip := hl.hip
  have hraw := hl.hraw
  have hrp := hl.hrpos
  have hrl := hl.hrl
  have hb4 : b ≤ 28 := by have := hA.at1; have := hA.at2; have := adv_four k.T c u; omega
  obtain ⟨c18, f18⟩ := hl.pb.at 18 hl.at18
  obtain ⟨c20, f20⟩ := hl.pb.at 20 hl.at20
  obtain ⟨c21, f21⟩ := hl.pb.at 21 hl.at21
  have HI := Lib.hid hI
  have HA := Lib.hid hA
  have HE := Lib.hid he
  have HF := Lib.hid hfst
  have OK := Lib.hid ok
  have HCD := Lib.hid hcd
  have HKK := Lib.hid hK
  have HXX := Lib.hid hX
  have hd : decide ((u : Int) < (n : Int)) = true := by simp; omega
  have hdn : decide (u < n) = true := by simp; omega
  rw [lit690 a hsz hdf, h0, h1, h5, h6]
  clear hI hA he hfst hK hX hl ok hcd
  conv => arg 2; whnf
  go_wp2_with fail
  go_step3
  go_upto_region 20 with fail
  go_cut [133] from 120 to 133 (fun s133 wx => s133 = .bool (!first || decide (rpos = rl)) ∧ ∃ d, wx = w.drewN d)
  case first =>
    cases first with
    | false =>
      go_quiet (fail)
      go_wp2_with fail
      go_meet
      case rel => exact ⟨rfl, _, rfl⟩
    | true =>
      by_cases hrr : rpos = rl
      · subst hrr
        go_quiet (fail)
        go_wp2_with fail
        go_meet
        case rel => exact ⟨by simp, _, rfl⟩
      · have b1 : ((rpos : Int) == (rl : Int)) = false := by rw [beq_eq_false_iff_ne]; omega
        have b2 : (rpos == rl) = false := by rw [beq_eq_false_iff_ne]; omega
        go_quiet (fail)
        go_wp2_with fail
        go_meet
        case rel => exact ⟨by simp [hrr], _, rfl⟩
  case rest =>
    obtain ⟨rfl, d, hwd⟩ := hcut
    have HIW : Hid (Inn k p c u b rl rpos ip eof L0 L RL BL w0 wc) := by rw [hwd]; exact HI.out.drewN d
    have HSW : Hid (wc.heap.size = w.heap.size) := by rw [hwd]; exact rfl
    clear hwd HI c18 c20 c21 f18 f20 f21
    go_upto_if 133 with fail
    go_cut [133] from 120 to 136 (fun _ wx => Fed k p c u b L0 BL w0 (2 * (k.T.length - ip) + if first then 1 else 0) wx)
    case first =>
      cases hb : (!first || decide (rpos = rl)) with
      | false =>
        have hh : first = true ∧ ¬ rpos = rl := by
          cases first <;> simp at hb ⊢
          exact hb
        have HH := Lib.hid hh
        clear hb hh
        go_wp2_with fail
        go_meet
        case rel =>
          have hh := HH.out
          exact ⟨rl, rpos, ip, eof, L, RL, HIW.out, HA.out, HE.out, .inr (by rw [hh.1]; simp), by omega⟩
      | true =>
        have hh : rl - rpos < 4 ∧ (first = false → eof = false) ∧ (rl = rpos ∨ ip < nx k.T (ip - (rl - rpos))) := by
          cases first with
          | false =>
            have hf := HF.out rfl
            have := nx_lt k.T (ip - (rl - rpos))
            exact ⟨by omega, fun _ => hf.1, hf.2⟩
          | true =>
            have : rpos = rl := by simpa using hb
            exact ⟨by omega, (fun h => by cases h), .inl this.symm⟩
        have HH := Lib.hid hh
        clear hb hh
        cases eof with
        | true =>
          go_wp2_with fail
          refine (ur_stop p k.r k.A k.T k.ci L RL rl rpos ip true _ (HIW.out.lay.env OK.out) (by simp)).mono ?_
          rintro e w4 ⟨rfl, kd, rfl⟩
          go_wp2_with fail
          go_meet
          case rel => exact ⟨rl, rpos, ip, true, L, RL, HIW.out.drewN kd, HA.out, (fun _ => HE.out (by simp)), .inl rfl, by have := HH.out.1; omega⟩
        | false =>
          go_wp2_with fail
          refine (ur_read p k.r k.A k.T k.ci L RL rl rpos ip k.E _ HIW.out.lay.ev OK.out.eof (by rw [HSW.out]; exact hg) (OK.out.sub OK.out.two).1 (fun b o e h => (OK.out.sub (OK.out.src b o e h)).1) (HIW.out.lay.env OK.out) (by have := HH.out.1; omega)).mono ?_
          rintro e w4 ⟨rfl, hfil⟩
          have HFIL := Lib.hid (HIW.out.filled hfil)
          clear hfil
          go_wp2_with fail
          go_meet
          case rel =>
            obtain ⟨L', RL', hin⟩ := HFIL.out
            have hm := HA.out
            refine ⟨_, 0, _, _, L', RL', hin, ?_, ?_, ?_, by omega⟩
            · have e : ip + min (512 - (rl - rpos)) (k.T.length - ip) - (rl - rpos + min (512 - (rl - rpos)) (k.T.length - ip) - 0) = ip - (rl - rpos) := by omega
              exact ⟨by rw [e]; exact hm.at1, by rw [e]; exact hm.at2, by rw [e]; exact hm.bd⟩
            · intro h
              have := of_decide_eq_true h
              omega
            · by_cases hit : ip = k.T.length
              · exact .inl (by simpa using hit)
              · right
                have := HH.out.1
                split <;> omega
    case rest =>
      obtain ⟨rl1, rpos1, ip1, eof1, L1, RL1, hI1, hA1, hE1, hM1, hB1⟩ := hcut
      have HI1 := Lib.hid hI1
      have HA1 := Lib.hid hA1
      have HE1 := Lib.hid hE1
      have HM1 := Lib.hid hM1
      clear hI1 hA1 hE1 hM1 HIW
      go_wp2_with fail
      go_step3
      go_wp2_with fail
      refine inner hr HE1.out HI1.out HA1.out hB1 rfl rfl rfl rfl ?_
      intro a2 w2 u2 b2 rpos2 L2 BL2 hu2 hf2 hI2 hA2 hb2 hend
      have s0 : gt a2 0 = .pointer (some ⟨p, 0, none⟩) := hf2.s0
      have s1 : gt a2 1 = .int .i64 (n : Nat) := hf2.s1
      have s5 := hf2.s5
      have s6 : gt a2 6 = .bool false := hf2.s6
      rw [lit690 a2 hf2.size hf2.defers, s0, s1, s5, s6]
      have HI2 := Lib.hid hI2
      have HA2 := Lib.hid hA2
      have HEND := Lib.hid hend
      clear hI2 hA2 hend hf2
      obtain ⟨c15, f15⟩ := HI2.out.lay.pb.at 15 HI2.out.lay.at15
      obtain ⟨c16, f16⟩ := HI2.out.lay.pb.at 16 HI2.out.at16
      obtain ⟨c18, f18⟩ := HI2.out.lay.pb.at 18 HI2.out.lay.at18
      have hpq : ¬ p = k.q := OK.out.pq
      have hqp : ¬ k.q = p := Ne.symm OK.out.pq
      have hbb2 : b2 ≤ 540 := by omega
      obtain ⟨y, hy⟩ := HI2.out.lay.qall b2 (by omega)
      have cq : w2.cell? ⟨k.q, b2, none⟩ = some (by8 y) := ((HI2.out.lay.qb.cell b2).1).trans hy
      have fq : w2.frozen? ⟨k.q, b2, none⟩ = false := (HI2.out.lay.qb.cell b2).2
      have e7 : (b2 : Int) < 1536 := by omega
      have e8 : (0 : Int) ≤ (b2 : Int) := by omega
      have e10 : (u2 : Int) ≤ 1000 := by have := HA2.out.at1; have := HA2.out.at2; have := adv_ge k.T c u2; omega
      clear hy
      cases eof1 with
      | false =>
        go_wp2_with fail
        rw [Exit.noGoto_normal]
        go_wp2_with fail
        refine HKK.out _ _ u2 b2 rl1 rpos2 ip1 L2 RL1 BL2 rfl rfl (by rw [h0]; rfl) (by rw [h1]; rfl) rfl rfl hu2 HI2.out HA2.out HEND.out ?_
        rcases HM1.out with h | h
        · cases h
        · exact h
      | true =>
        have hip1 := HE1.out rfl
        have hrp2 := HI2.out.lay.hrpos
        have hrw2 := HI2.out.lay.hraw
        have hrr : rpos2 = rl1 := by
          rcases HEND.out with h | h
          · exact h.symm
          · by_cases hh : rpos2 = rl1
            · exact hh
            · have := (OK.out.good.chars _ HA2.out.bd (by omega)).2
              omega
        subst hrr
        have hm := HA2.out
        have HIP1 := Lib.hid hip1
        clear hip1
        go_wp2_with fail
        have hm1 := hm.at1
        have hm2 := hm.at2
        have hlay : Lay k p c u2 0 b2 rpos2 rpos2 k.T.length true L2 RL1 BL2 w2 := by have := HI2.out.lay; rw [HIP1.out] at this; exact this
        have hout : k.T.length ≤ c + b2 := by have := HIP1.out; omega
        have hmb : ModeB k.T c u2 b2 0 k.T.length true := ⟨rfl, rfl, rfl, hout, by have := HIP1.out; omega, by have := HIP1.out; omega, by have := HIP1.out; omega⟩
        have hcd : c < k.T.length → Bd k.T c := HCD.out
        have hlay2 := (hlay.nought OK.out hout (by omega)).count (u' := u2 + 1) OK.out (v := (u2 : Int) + 1) (by omega)
        refine HXX.out _ _ (by rw [h0]; rfl) (by rw [h1]; rfl) ⟨rfl, rfl, u2 + 1, b2 + 1, rpos2, L2.set 18 (.int .i64 ((u2 : Int) + 1)), RL1, BL2.set b2 (.int .u8 0), rfl, by omega, by omega, hlay2, hmb.one OK.out.good hcd, by rw [lset_ne (by omega)]; exact HI2.out.at16, by rw [lset_ne (by omega)]; exact HI2.out.at22, old_set HI2.out.old off18, (HI2.out.kp.setCell k.q b2 _ (k.mq p)).setCell p 18 _ (k.mp p), by simp; exact HI2.out.size, by omega⟩
end Go.Proofs.YtocbbekciphjgaaDoor.Pa
