/- One character is decoded (yaml_parser_update_buffer, the inner loop's round): the walks. -/
import Derived.Test.YtocbbekciphjgaaDoorPaL
import Derived.Outline
namespace Go.Proofs.YtocbbekciphjgaaDoor.Pa
open Go.RowKit Go.Proofs.YtocbbekciphjgaaDoor.Rdp
set_option linter.unusedVariables false
set_option linter.unusedSimpArgs false
theorem bits_all : ∀ k : Fin 256, (Go.bits .and .u8 (k.val : Int) 128 == 0) = decide (k.val < 128) ∧ (Go.bits .and .u8 (k.val : Int) 224 == 192) = decide (192 ≤ k.val ∧ k.val < 224) ∧
    (Go.bits .and .u8 (k.val : Int) 240 == 224) = decide (224 ≤ k.val ∧ k.val < 240) ∧ (Go.bits .and .u8 (k.val : Int) 248 == 240) = decide (240 ≤ k.val ∧ k.val < 248) ∧
    (Go.bits .and .u8 (k.val : Int) 192 != 128) = !decide (128 ≤ k.val ∧ k.val < 192) ∧ Go.bits .and .u8 (k.val : Int) 127 = (k.val : Int) % 128 ∧ Go.bits .and .u8 (k.val : Int) 31 = (k.val : Int) % 32 ∧ Go.bits .and .u8 (k.val : Int) 15 = (k.val : Int) % 16 ∧
    Go.bits .and .u8 (k.val : Int) 7 = (k.val : Int) % 8 ∧ Go.bits .and .u8 (k.val : Int) 63 = (k.val : Int) % 64 := by decide +kernel
theorem bits_at (x : Int) (h0 : 0 ≤ x) (h1 : x ≤ 255) : (Go.bits .and .u8 x 128 == 0) = decide (x < 128) ∧ (Go.bits .and .u8 x 224 == 192) = decide (192 ≤ x ∧ x < 224) ∧
    (Go.bits .and .u8 x 240 == 224) = decide (224 ≤ x ∧ x < 240) ∧ (Go.bits .and .u8 x 248 == 240) = decide (240 ≤ x ∧ x < 248) ∧ (Go.bits .and .u8 x 192 != 128) = !decide (128 ≤ x ∧ x < 192) ∧ Go.bits .and .u8 x 127 = x % 128 ∧ Go.bits .and .u8 x 31 = x % 32 ∧ Go.bits .and .u8 x 15 = x % 16 ∧ Go.bits .and .u8 x 7 = x % 8 ∧ Go.bits .and .u8 x 63 = x % 64 := by
  obtain ⟨n, rfl⟩ := Int.eq_ofNat_of_zero_le h0
  obtain ⟨a, b, c, d, e, f⟩ := bits_all ⟨n, by omega⟩
  refine ⟨a.trans ?_, b.trans ?_, c.trans ?_, d.trans ?_, e.trans ?_, f⟩
  all_goals first | (rw [decide_eq_decide]; simp only; omega) | (rw [Bool.not_eq_not, decide_eq_decide]; simp only; omega) | (congr 1; rw [decide_eq_decide]; simp only; omega)
theorem Inn.drewN {k : Kn} {p c u bl rl rpos ip : Nat} {eof : Bool} {L0 L RL BL : List Value} {w0 w : World} (h : Inn k p c u bl rl rpos ip eof L0 L RL BL w0 w) (n : Nat) : Inn k p c u bl rl rpos ip eof L0 L RL BL w0 (w.drewN n) :=
  ⟨h.lay.drewN n, h.at16, h.at22, h.ok, h.old, h.kp.drewN n, h.size⟩
/-- The slots that outlive a round. -/
structure Fr (a a' : Act) (b : Nat) : Prop where
  size : a'.tmps.size = 690
  defers : a'.defers = []
  s0 : gt a' 0 = gt a 0
  s1 : gt a' 1 = gt a 1
  s5 : gt a' 5 = .int .i64 (b : Nat)
  s6 : gt a' 6 = gt a 6
set_option maxHeartbeats 8000000 in
set_option maxRecDepth 100000 in
theorem in1 {k : Kn} {p c u b rl rpos ip : Nat} {eof : Bool} {L0 L RL BL : List Value} {w0 w : World} {a : Act} {K : Act → World → Prop} {Q : Exit → Act → World → Prop} (hI : Inn k p c u b rl rpos ip eof L0 L RL BL w0 w) (hA : ModeA k.T c u b (rl - rpos) ip) (hb : b + (rl - rpos) ≤ 540) (hlt : rpos < rl)
    (hx : Ok1 (S k.T (ip - (rl - rpos)))) (hnx : nx k.T (ip - (rl - rpos)) = ip - (rl - rpos) + 1) (hsz : a.tmps.size = 690) (hdf : a.defers = []) (h0 : gt a 0 = .pointer (some ⟨p, 0, none⟩)) (h5 : gt a 5 = .int .i64 (b : Nat))
    (hK : ∀ a' w' L' BL', Fr a a' (b + 1) → Inn k p c (u + 1) (b + 1) rl (rpos + 1) ip eof L0 L' RL BL' w0 w' → ModeA k.T c (u + 1) (b + 1) (rl - (rpos + 1)) ip → b + 1 + (rl - (rpos + 1)) ≤ 540 → K a' w') :
    iBody.wp Tryd.prog (Exit.then K Q) a w := by
  have hl := hI.lay
  have hraw := hl.raw 0 (by omega)
  rw [Nat.add_zero, Nat.add_zero] at hraw
  obtain ⟨x, HX⟩ : ∃ x, Hid (x = S k.T (ip - (rl - rpos))) := ⟨_, rfl⟩
  rw [← HX.out] at hraw hx
  have hx0 : 0 ≤ x ∧ x < 127 := by unfold Ok1 at hx; omega
  obtain ⟨t1, t2, t3, t4, t5, t6, _⟩ := bits_at x hx0.1 (by omega)
  rw [show x % 128 = x by omega] at t6
  rw [show decide (x < 128) = true by simp; omega] at t1
  obtain ⟨x0, x1⟩ := hx0
  obtain ⟨c16, f16⟩ := hl.pb.at 16 hI.at16
  obtain ⟨c18, f18⟩ := hl.pb.at 18 hl.at18
  obtain ⟨c20, f20⟩ := hl.pb.at 20 hl.at20
  obtain ⟨c21, f21⟩ := hl.pb.at 21 hl.at21
  obtain ⟨c22, f22⟩ := hl.pb.at 22 hI.at22
  obtain ⟨c23, f23⟩ := hl.pb.at 23 hl.at23
  obtain ⟨cr, fr⟩ := hl.rb.at rpos hraw
  unfold by8 at cr
  have hHI := Lib.hid hI
  have hHA := Lib.hid hA
  have HKK := Lib.hid hK
  have e1 : ((rpos : Int) != (rl : Int)) = true := by rw [bne_iff_ne]; omega
  have e2 : (rpos != rl) = true := by rw [bne_iff_ne]; omega
  have e3 : (rpos : Int) ≤ (rl : Int) := by omega
  have e4 : (rl : Int) ≤ 512 := by have := hl.hrl; omega
  have e5 : (0 : Int) ≤ (rpos : Int) := by omega
  have e6 : (rpos : Int) < (rl : Int) := by omega
  rw [lit690 a hsz hdf, h0, h5]
  have HOX := Lib.hid hx
  obtain ⟨off, HOFF⟩ : ∃ off : Nat, Hid (ip - (rl - rpos) = off) := ⟨_, rfl⟩
  have e11 : (off : Int) ≤ 2147483647 := by have := hI.ok.tlen; have := hl.hip; have := HOFF.out; omega
  rw [HOFF.out] at c23
  have hpq : ¬ p = k.q := hI.ok.pq
  have hqp : ¬ k.q = p := Ne.symm hI.ok.pq
  obtain ⟨y, hy⟩ := hl.qall b (by omega)
  have cq : w.cell? ⟨k.q, b, none⟩ = some (by8 y) := ((hl.qb.cell b).1).trans hy
  have fq : w.frozen? ⟨k.q, b, none⟩ = false := (hl.qb.cell b).2
  have e7 : (b : Int) < 1536 := by omega
  have e8 : (0 : Int) ≤ (b : Int) := by omega
  have e9 : (rpos : Int) + 1 ≤ 512 := by omega
  have e10 : (u : Int) ≤ 1000 := by have := hA.at1; have := hA.at2; have := adv_ge k.T c u; omega
  clear hI hA hK hl hraw hx hy
  conv => arg 2; whnf
  go_wp2_with fail
  go_quiet (fail)
  go_wp2_with fail
  go_quiet (fail)
  go_wp2_with fail
  go_quiet (fail)
  go_wp2_with fail
  refine wp_loop_rounds 1 ?_
  rw [rounds_succ]
  clear t1 t2 t3 t4 t5 t6
  have u1 : decide (55296 ≤ x) = false := by simp; omega
  have u2 : decide (1114111 < x) = false := by simp; omega
  have u3 : decide (x ≤ 127) = true := by simp; omega
  obtain ⟨z9, z10, z13, z32, hz, hz9, hz10, hz13, hz32⟩ : ∃ z9 z10 z13 z32 : Bool, (z9 || (z10 || (z13 || z32))) = true ∧ (x == 9) = z9 ∧ (x == 10) = z10 ∧ (x == 13) = z13 ∧ (decide (32 ≤ x) && decide (x ≤ 126)) = z32 := by
    refine ⟨_, _, _, _, ?_, rfl, rfl, rfl, rfl⟩
    have := HOX.out
    unfold Ok1 at this
    simp
    omega
  have HZ := Lib.hid hz
  have HZ32 := Lib.hid hz32
  clear hz hz32
  have hways : z9 = true ∨ (z9 = false ∧ z10 = true) ∨ (z9 = false ∧ z10 = false ∧ z13 = true) ∨ (z9 = false ∧ z10 = false ∧ z13 = false ∧ z32 = true) := by
    have := HZ.out
    cases z9 <;> cases z10 <;> cases z13 <;> cases z32 <;> simp_all
  clear HZ
  rcases hways with rfl | ⟨rfl, rfl⟩ | ⟨rfl, rfl, rfl⟩ | ⟨rfl, rfl, rfl, rfl⟩
  · go_wp2_with fail
    have hfin := fun N => (hHI.out.drewN N).eat1 hHA.out (by omega) hnx hb (v18 := (u : Int) + 1) (v21 := (rpos : Int) + 1) (v23 := (off : Int) + 1) (x0 := x) (by omega) (by omega) (by have := HOFF.out; omega) HX.out
    exact HKK.out _ _ _ _ ⟨rfl, rfl, by rw [h0]; rfl, rfl, rfl, rfl⟩ (hfin _).1 (hfin 0).2.1 (hfin 0).2.2
  · go_wp2_with fail
    have hfin := fun N => (hHI.out.drewN N).eat1 hHA.out (by omega) hnx hb (v18 := (u : Int) + 1) (v21 := (rpos : Int) + 1) (v23 := (off : Int) + 1) (x0 := x) (by omega) (by omega) (by have := HOFF.out; omega) HX.out
    exact HKK.out _ _ _ _ ⟨rfl, rfl, by rw [h0]; rfl, rfl, rfl, rfl⟩ (hfin _).1 (hfin 0).2.1 (hfin 0).2.2
  · go_wp2_with fail
    have hfin := fun N => (hHI.out.drewN N).eat1 hHA.out (by omega) hnx hb (v18 := (u : Int) + 1) (v21 := (rpos : Int) + 1) (v23 := (off : Int) + 1) (x0 := x) (by omega) (by omega) (by have := HOFF.out; omega) HX.out
    exact HKK.out _ _ _ _ ⟨rfl, rfl, by rw [h0]; rfl, rfl, rfl, rfl⟩ (hfin _).1 (hfin 0).2.1 (hfin 0).2.2
  · have v1 : decide (32 ≤ x) = true := by have := HZ32.out; rw [Bool.and_eq_true] at this; exact this.1
    have v2 : decide (x ≤ 126) = true := by have := HZ32.out; rw [Bool.and_eq_true] at this; exact this.2
    go_wp2_with fail
    have hfin := fun N => (hHI.out.drewN N).eat1 hHA.out (by omega) hnx hb (v18 := (u : Int) + 1) (v21 := (rpos : Int) + 1) (v23 := (off : Int) + 1) (x0 := x) (by omega) (by omega) (by have := HOFF.out; omega) HX.out
    exact HKK.out _ _ _ _ ⟨rfl, rfl, by rw [h0]; rfl, rfl, rfl, rfl⟩ (hfin _).1 (hfin 0).2.1 (hfin 0).2.2
end Go.Proofs.YtocbbekciphjgaaDoor.Pa
