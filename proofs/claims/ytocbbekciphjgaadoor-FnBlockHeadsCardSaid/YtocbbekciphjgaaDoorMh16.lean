/- PaQ3, PaQ4, PaR, AnF: parts of the proof, one behind another. -/
import Derived.Laws.BitsLemmas
import Derived.Test.YtocbbekciphjgaaDoorMz12
import Derived.Test.YtocbbekciphjgaaDoorMz18
import Derived.Test.YtocbbekciphjgaaDoorMh8
import Derived.Test.YtocbbekciphjgaaDoorMh15
/- PaQ3 -/
/- One character of 3 bytes is decoded (yaml_parser_update_buffer, the inner loop's round): the walk. Printed by genPaQ.py. -/
namespace Go.Proofs.YtocbbekciphjgaaDoor.Pa
open Go.RowKit Go.Proofs.YtocbbekciphjgaaDoor.Rdp
set_option linter.unusedVariables false
set_option linter.unusedSimpArgs false
set_option maxHeartbeats 8000000 in
set_option maxRecDepth 100000 in
theorem in3 {k : Kn} {p c u b rl rpos ip : Nat} {eof : Bool} {L0 L RL BL : List Value} {w0 w : World} {a : Act} {K : Act → World → Prop} {Q : Exit → Act → World → Prop} (hI : Inn k p c u b rl rpos ip eof L0 L RL BL w0 w) (hA : ModeA k.T c u b (rl - rpos) ip) (hb : b + (rl - rpos) ≤ 540) (hlt : rpos + 3 ≤ rl)
    (hx : Ok3 (S k.T (ip - (rl - rpos))) (S k.T (ip - (rl - rpos) + 1)) (S k.T (ip - (rl - rpos) + 2))) (hnx : nx k.T (ip - (rl - rpos)) = ip - (rl - rpos) + 3) (hsz : a.tmps.size = 690) (hdf : a.defers = []) (h0 : gt a 0 = .pointer (some ⟨p, 0, none⟩)) (h5 : gt a 5 = .int .i64 (b : Nat))
    (hK : ∀ a' w' L' BL', Fr a a' (b + 3) → Inn k p c (u + 1) (b + 3) rl (rpos + 3) ip eof L0 L' RL BL' w0 w' → ModeA k.T c (u + 1) (b + 3) (rl - (rpos + 3)) ip → b + 3 + (rl - (rpos + 3)) ≤ 540 → K a' w') :
    iBody.wp Tryd.prog (Exit.then K Q) a w := by
  have hl := hI.lay
  have hraw0 := hl.raw 0 (by omega)
  have hraw1 := hl.raw 1 (by omega)
  have hraw2 := hl.raw 2 (by omega)
  rw [Nat.add_zero, Nat.add_zero] at hraw0
  obtain ⟨x, HX⟩ : ∃ x, Hid (x = S k.T (ip - (rl - rpos))) := ⟨_, rfl⟩
  rw [← HX.out] at hraw0 hx
  obtain ⟨y, HY⟩ : ∃ y, Hid (y = S k.T (ip - (rl - rpos) + 1)) := ⟨_, rfl⟩
  rw [← HY.out] at hraw1 hx
  obtain ⟨z, HZ⟩ : ∃ z, Hid (z = S k.T (ip - (rl - rpos) + 2)) := ⟨_, rfl⟩
  rw [← HZ.out] at hraw2 hx
  have rx : 224 ≤ x ∧ x ≤ 239 := by unfold Ok3 at hx; omega
  have ry : 128 ≤ y ∧ y ≤ 191 := by unfold Ok3 at hx; omega
  have rz : 128 ≤ z ∧ z ≤ 191 := by unfold Ok3 at hx; omega
  obtain ⟨t1, t2, t3, t4, t5, t6, t7, t8, t9, t10⟩ := bits_at x (by omega) (by omega)
  rw [show decide (x < 128) = false by simp; omega] at t1
  rw [show decide (192 ≤ x ∧ x < 224) = false by simp; omega] at t2
  rw [show decide (224 ≤ x ∧ x < 240) = true by simp; omega] at t3
  rw [show decide (240 ≤ x ∧ x < 248) = false by simp; omega] at t4
  obtain ⟨sy, qy⟩ : (Go.bits .and .u8 y 192 != 128) = false ∧ Go.bits .and .u8 y 63 = y % 64 := by
    obtain ⟨_, _, _, _, s, _, _, _, _, q⟩ := bits_at y (by omega) (by omega)
    rw [show decide (128 ≤ y ∧ y < 192) = true by simp; omega] at s
    exact ⟨s, q⟩
  obtain ⟨sz, qz⟩ : (Go.bits .and .u8 z 192 != 128) = false ∧ Go.bits .and .u8 z 63 = z % 64 := by
    obtain ⟨_, _, _, _, s, _, _, _, _, q⟩ := bits_at z (by omega) (by omega)
    rw [show decide (128 ≤ z ∧ z < 192) = true by simp; omega] at s
    exact ⟨s, q⟩
  obtain ⟨c16, f16⟩ := hl.pb.at 16 hI.at16
  obtain ⟨c18, f18⟩ := hl.pb.at 18 hl.at18
  obtain ⟨c20, f20⟩ := hl.pb.at 20 hl.at20
  obtain ⟨c21, f21⟩ := hl.pb.at 21 hl.at21
  obtain ⟨c22, f22⟩ := hl.pb.at 22 hI.at22
  obtain ⟨c23, f23⟩ := hl.pb.at 23 hl.at23
  obtain ⟨cr0, fr0⟩ := hl.rb.at rpos hraw0
  unfold by8 at cr0
  obtain ⟨cr1, fr1⟩ := hl.rb.at (rpos + 1) hraw1
  unfold by8 at cr1
  obtain ⟨cr2, fr2⟩ := hl.rb.at (rpos + 2) hraw2
  unfold by8 at cr2
  have hHI := Lib.hid hI
  have hHA := Lib.hid hA
  have HKK := Lib.hid hK
  have e1 : ((rpos : Int) != (rl : Int)) = true := by rw [bne_iff_ne]; omega
  have e2 : (rpos != rl) = true := by rw [bne_iff_ne]; omega
  have e3 : (rpos : Int) ≤ (rl : Int) := by omega
  have e4 : (rl : Int) ≤ 512 := by have := hl.hrl; omega
  have e5 : (0 : Int) ≤ (rpos : Int) := by omega
  have e6 : (rpos : Int) < (rl : Int) := by omega
  rw [lit690 a hsz hdf, h0, h5]
  have HOX := Lib.hid hx
  obtain ⟨off, HOFF⟩ : ∃ off : Nat, Hid (ip - (rl - rpos) = off) := ⟨_, rfl⟩
  have e11 : (off : Int) ≤ 2147483647 := by have := hI.ok.tlen; have := hl.hip; have := HOFF.out; omega
  rw [HOFF.out] at c23
  have hpq : ¬ p = k.q := hI.ok.pq
  have hqp : ¬ k.q = p := Ne.symm hI.ok.pq
  obtain ⟨yq0, hyq0⟩ := hl.qall (b) (by omega)
  have cq0 : w.cell? ⟨k.q, b, none⟩ = some (by8 yq0) := ((hl.qb.cell (b)).1).trans hyq0
  have fq0 : w.frozen? ⟨k.q, b, none⟩ = false := (hl.qb.cell (b)).2
  obtain ⟨yq1, hyq1⟩ := hl.qall (b + 1) (by omega)
  have cq1 : w.cell? ⟨k.q, b + 1, none⟩ = some (by8 yq1) := ((hl.qb.cell (b + 1)).1).trans hyq1
  have fq1 : w.frozen? ⟨k.q, b + 1, none⟩ = false := (hl.qb.cell (b + 1)).2
  obtain ⟨yq2, hyq2⟩ := hl.qall (b + 2) (by omega)
  have cq2 : w.cell? ⟨k.q, b + 2, none⟩ = some (by8 yq2) := ((hl.qb.cell (b + 2)).1).trans hyq2
  have fq2 : w.frozen? ⟨k.q, b + 2, none⟩ = false := (hl.qb.cell (b + 2)).2
  have e7 : (b : Int) < 1536 := by omega
  have e8 : (0 : Int) ≤ (b : Int) := by omega
  have e9 : (rpos : Int) + 3 ≤ 512 := by omega
  have e10 : (u : Int) ≤ 1000 := by have := hA.at1; have := hA.at2; have := adv_ge k.T c u; omega
  clear hI hA hK hl hraw0 hraw1 hraw2 hx hyq0 hyq1 hyq2
  have w0 : ¬ ((rl : Int) - (rpos : Int) < 3) := by omega
  have w1 : decide ((rl : Int) - (rpos : Int) < 3) = false := decide_eq_false w0
  conv => arg 2; whnf
  go_wp2_with fail
  go_quiet (fail)
  go_wp2_with fail
  go_quiet (fail)
  go_wp2_with fail
  go_quiet (fail)
  go_wp2_with fail
  refine wp_loop_rounds 3 ?_
  rw [rounds_succ]
  go_wp2_with fail
  go_quiet (fail)
  go_wp2_with fail
  rw [rounds_succ]
  go_wp2_with fail
  go_quiet (fail)
  go_wp2_with fail
  obtain ⟨v, HV⟩ : ∃ v, Hid ((x % 16 * 64 + y % 64) * 64 + z % 64 = v) := ⟨_, rfl⟩
  rw [HV.out]
  have hv : 2048 ≤ v ∧ v ≤ 65535 ∧ (v ≤ 55295 ∨ (57344 ≤ v ∧ v ≤ 65533)) := by
    have h1 := HV.out
    have h2 := HOX.out
    unfold Ok3 at h2
    omega
  have d1 : decide (128 ≤ v) = true := by simp; omega
  have d2 : decide (2048 ≤ v) = true := by simp; omega
  have d3 : decide (65536 ≤ v) = false := by simp; omega
  have d5 : decide (1114111 < v) = false := by simp; omega
  have d7 : decide (32 ≤ v) = true := by simp; omega
  have d8 : decide (v ≤ 126) = false := by simp; omega
  have d16 : decide (v ≤ 127) = false := by simp; omega
  have d17 : decide (v ≤ 2047) = false := by simp; omega
  have d18 : decide (v ≤ 65535) = true := by simp; omega
  have q9 : (v == 9) = false := by simp; omega
  have q10 : (v == 10) = false := by simp; omega
  have q13 : (v == 13) = false := by simp; omega
  rw [rounds_succ]
  have hx1 := HV.out
  clear hx1
  have hw : (v ≤ 55295) ∨ (57344 ≤ v ∧ v ≤ 65533) := by omega
  rcases hw with hw | hw
  · have g133 : (v == 133) = false := by simp; omega
    have g0 : decide (55296 ≤ v) = false := by simp; omega
    have g1 : decide (160 ≤ v) = true := by simp; omega
    have g2 : decide (v ≤ 55295) = true := by simp; omega
    clear hv hw
    go_wp2_with fail
    have E0 : wrap32 (224 + v / 4096) % 256 = x := by rw [IntWalk.wrap32_in _ (by have := HV.out; omega)]; have := HV.out; omega
    have E1 : wrap32 (128 + Go.bits .and .i32 (v / 64) 63) % 256 = y := by rw [m63 (v / 64) (by have := HV.out; omega) (by have := HV.out; omega)]; rw [IntWalk.wrap32_in _ (by have := HV.out; omega)]; have := HV.out; omega
    have E2 : wrap32 (128 + Go.bits .and .i32 v 63) % 256 = z := by rw [m63 v (by have := HV.out; omega) (by have := HV.out; omega)]; rw [IntWalk.wrap32_in _ (by have := HV.out; omega)]; have := HV.out; omega
    rw [E0, E1, E2]
    have hfin := fun N => (hHI.out.drewN N).eat3 hHA.out (by omega) hnx hb (v18 := (u : Int) + 1) (v21 := (rpos : Int) + 3) (v23 := (off : Int) + 3) (x0 := x) (x1 := y) (x2 := z) (by omega) (by omega) (by have := HOFF.out; omega) HX.out HY.out HZ.out
    exact HKK.out _ _ _ _ ⟨rfl, rfl, by rw [h0]; rfl, rfl, rfl, rfl⟩ (hfin _).1 (hfin 0).2.1 (hfin 0).2.2
  · have g133 : (v == 133) = false := by simp; omega
    have g0 : decide (55296 ≤ v) = true := by simp; omega
    have g1 : decide (v ≤ 57343) = false := by simp; omega
    have g2 : decide (160 ≤ v) = true := by simp; omega
    have g3 : decide (v ≤ 55295) = false := by simp; omega
    have g4 : decide (57344 ≤ v) = true := by simp; omega
    have g5 : decide (v ≤ 65533) = true := by simp; omega
    clear hv hw
    go_wp2_with fail
    have E0 : wrap32 (224 + v / 4096) % 256 = x := by rw [IntWalk.wrap32_in _ (by have := HV.out; omega)]; have := HV.out; omega
    have E1 : wrap32 (128 + Go.bits .and .i32 (v / 64) 63) % 256 = y := by rw [m63 (v / 64) (by have := HV.out; omega) (by have := HV.out; omega)]; rw [IntWalk.wrap32_in _ (by have := HV.out; omega)]; have := HV.out; omega
    have E2 : wrap32 (128 + Go.bits .and .i32 v 63) % 256 = z := by rw [m63 v (by have := HV.out; omega) (by have := HV.out; omega)]; rw [IntWalk.wrap32_in _ (by have := HV.out; omega)]; have := HV.out; omega
    rw [E0, E1, E2]
    have hfin := fun N => (hHI.out.drewN N).eat3 hHA.out (by omega) hnx hb (v18 := (u : Int) + 1) (v21 := (rpos : Int) + 3) (v23 := (off : Int) + 3) (x0 := x) (x1 := y) (x2 := z) (by omega) (by omega) (by have := HOFF.out; omega) HX.out HY.out HZ.out
    exact HKK.out _ _ _ _ ⟨rfl, rfl, by rw [h0]; rfl, rfl, rfl, rfl⟩ (hfin _).1 (hfin 0).2.1 (hfin 0).2.2
end Go.Proofs.YtocbbekciphjgaaDoor.Pa
/- PaQ4 -/
/- One character of 4 bytes is decoded (yaml_parser_update_buffer, the inner loop's round): the walk. Printed by genPaQ.py. -/
namespace Go.Proofs.YtocbbekciphjgaaDoor.Pa
open Go.RowKit Go.Proofs.YtocbbekciphjgaaDoor.Rdp
set_option linter.unusedVariables false
set_option linter.unusedSimpArgs false
set_option maxHeartbeats 8000000 in
set_option maxRecDepth 100000 in
theorem in4 {k : Kn} {p c u b rl rpos ip : Nat} {eof : Bool} {L0 L RL BL : List Value} {w0 w : World} {a : Act} {K : Act → World → Prop} {Q : Exit → Act → World → Prop} (hI : Inn k p c u b rl rpos ip eof L0 L RL BL w0 w) (hA : ModeA k.T c u b (rl - rpos) ip) (hb : b + (rl - rpos) ≤ 540) (hlt : rpos + 4 ≤ rl)
    (hx : Ok4 (S k.T (ip - (rl - rpos))) (S k.T (ip - (rl - rpos) + 1)) (S k.T (ip - (rl - rpos) + 2)) (S k.T (ip - (rl - rpos) + 3))) (hnx : nx k.T (ip - (rl - rpos)) = ip - (rl - rpos) + 4) (hsz : a.tmps.size = 690) (hdf : a.defers = []) (h0 : gt a 0 = .pointer (some ⟨p, 0, none⟩)) (h5 : gt a 5 = .int .i64 (b : Nat))
    (hK : ∀ a' w' L' BL', Fr a a' (b + 4) → Inn k p c (u + 1) (b + 4) rl (rpos + 4) ip eof L0 L' RL BL' w0 w' → ModeA k.T c (u + 1) (b + 4) (rl - (rpos + 4)) ip → b + 4 + (rl - (rpos + 4)) ≤ 540 → K a' w') :
    iBody.wp Tryd.prog (Exit.then K Q) a w := by
  have hl := hI.lay
  have hraw0 := hl.raw 0 (by omega)
  have hraw1 := hl.raw 1 (by omega)
  have hraw2 := hl.raw 2 (by omega)
  have hraw3 := hl.raw 3 (by omega)
  rw [Nat.add_zero, Nat.add_zero] at hraw0
  obtain ⟨x, HX⟩ : ∃ x, Hid (x = S k.T (ip - (rl - rpos))) := ⟨_, rfl⟩
  rw [← HX.out] at hraw0 hx
  obtain ⟨y, HY⟩ : ∃ y, Hid (y = S k.T (ip - (rl - rpos) + 1)) := ⟨_, rfl⟩
  rw [← HY.out] at hraw1 hx
  obtain ⟨z, HZ⟩ : ∃ z, Hid (z = S k.T (ip - (rl - rpos) + 2)) := ⟨_, rfl⟩
  rw [← HZ.out] at hraw2 hx
  obtain ⟨t, HT⟩ : ∃ t, Hid (t = S k.T (ip - (rl - rpos) + 3)) := ⟨_, rfl⟩
  rw [← HT.out] at hraw3 hx
  have rx : 240 ≤ x ∧ x ≤ 244 := by unfold Ok4 at hx; omega
  have ry : 128 ≤ y ∧ y ≤ 191 := by unfold Ok4 at hx; omega
  have rz : 128 ≤ z ∧ z ≤ 191 := by unfold Ok4 at hx; omega
  have rt : 128 ≤ t ∧ t ≤ 191 := by unfold Ok4 at hx; omega
  obtain ⟨t1, t2, t3, t4, t5, t6, t7, t8, t9, t10⟩ := bits_at x (by omega) (by omega)
  rw [show decide (x < 128) = false by simp; omega] at t1
  rw [show decide (192 ≤ x ∧ x < 224) = false by simp; omega] at t2
  rw [show decide (224 ≤ x ∧ x < 240) = false by simp; omega] at t3
  rw [show decide (240 ≤ x ∧ x < 248) = true by simp; omega] at t4
  obtain ⟨sy, qy⟩ : (Go.bits .and .u8 y 192 != 128) = false ∧ Go.bits .and .u8 y 63 = y % 64 := by
    obtain ⟨_, _, _, _, s, _, _, _, _, q⟩ := bits_at y (by omega) (by omega)
    rw [show decide (128 ≤ y ∧ y < 192) = true by simp; omega] at s
    exact ⟨s, q⟩
  obtain ⟨sz, qz⟩ : (Go.bits .and .u8 z 192 != 128) = false ∧ Go.bits .and .u8 z 63 = z % 64 := by
    obtain ⟨_, _, _, _, s, _, _, _, _, q⟩ := bits_at z (by omega) (by omega)
    rw [show decide (128 ≤ z ∧ z < 192) = true by simp; omega] at s
    exact ⟨s, q⟩
  obtain ⟨st, qt⟩ : (Go.bits .and .u8 t 192 != 128) = false ∧ Go.bits .and .u8 t 63 = t % 64 := by
    obtain ⟨_, _, _, _, s, _, _, _, _, q⟩ := bits_at t (by omega) (by omega)
    rw [show decide (128 ≤ t ∧ t < 192) = true by simp; omega] at s
    exact ⟨s, q⟩
  obtain ⟨c16, f16⟩ := hl.pb.at 16 hI.at16
  obtain ⟨c18, f18⟩ := hl.pb.at 18 hl.at18
  obtain ⟨c20, f20⟩ := hl.pb.at 20 hl.at20
  obtain ⟨c21, f21⟩ := hl.pb.at 21 hl.at21
  obtain ⟨c22, f22⟩ := hl.pb.at 22 hI.at22
  obtain ⟨c23, f23⟩ := hl.pb.at 23 hl.at23
  obtain ⟨cr0, fr0⟩ := hl.rb.at rpos hraw0
  unfold by8 at cr0
  obtain ⟨cr1, fr1⟩ := hl.rb.at (rpos + 1) hraw1
  unfold by8 at cr1
  obtain ⟨cr2, fr2⟩ := hl.rb.at (rpos + 2) hraw2
  unfold by8 at cr2
  obtain ⟨cr3, fr3⟩ := hl.rb.at (rpos + 3) hraw3
  unfold by8 at cr3
  have hHI := Lib.hid hI
  have hHA := Lib.hid hA
  have HKK := Lib.hid hK
  have e1 : ((rpos : Int) != (rl : Int)) = true := by rw [bne_iff_ne]; omega
  have e2 : (rpos != rl) = true := by rw [bne_iff_ne]; omega
  have e3 : (rpos : Int) ≤ (rl : Int) := by omega
  have e4 : (rl : Int) ≤ 512 := by have := hl.hrl; omega
  have e5 : (0 : Int) ≤ (rpos : Int) := by omega
  have e6 : (rpos : Int) < (rl : Int) := by omega
  rw [lit690 a hsz hdf, h0, h5]
  have HOX := Lib.hid hx
  obtain ⟨off, HOFF⟩ : ∃ off : Nat, Hid (ip - (rl - rpos) = off) := ⟨_, rfl⟩
  have e11 : (off : Int) ≤ 2147483647 := by have := hI.ok.tlen; have := hl.hip; have := HOFF.out; omega
  rw [HOFF.out] at c23
  have hpq : ¬ p = k.q := hI.ok.pq
  have hqp : ¬ k.q = p := Ne.symm hI.ok.pq
  obtain ⟨yq0, hyq0⟩ := hl.qall (b) (by omega)
  have cq0 : w.cell? ⟨k.q, b, none⟩ = some (by8 yq0) := ((hl.qb.cell (b)).1).trans hyq0
  have fq0 : w.frozen? ⟨k.q, b, none⟩ = false := (hl.qb.cell (b)).2
  obtain ⟨yq1, hyq1⟩ := hl.qall (b + 1) (by omega)
  have cq1 : w.cell? ⟨k.q, b + 1, none⟩ = some (by8 yq1) := ((hl.qb.cell (b + 1)).1).trans hyq1
  have fq1 : w.frozen? ⟨k.q, b + 1, none⟩ = false := (hl.qb.cell (b + 1)).2
  obtain ⟨yq2, hyq2⟩ := hl.qall (b + 2) (by omega)
  have cq2 : w.cell? ⟨k.q, b + 2, none⟩ = some (by8 yq2) := ((hl.qb.cell (b + 2)).1).trans hyq2
  have fq2 : w.frozen? ⟨k.q, b + 2, none⟩ = false := (hl.qb.cell (b + 2)).2
  obtain ⟨yq3, hyq3⟩ := hl.qall (b + 3) (by omega)
  have cq3 : w.cell? ⟨k.q, b + 3, none⟩ = some (by8 yq3) := ((hl.qb.cell (b + 3)).1).trans hyq3
  have fq3 : w.frozen? ⟨k.q, b + 3, none⟩ = false := (hl.qb.cell (b + 3)).2
  have e7 : (b : Int) < 1536 := by omega
  have e8 : (0 : Int) ≤ (b : Int) := by omega
  have e9 : (rpos : Int) + 4 ≤ 512 := by omega
  have e10 : (u : Int) ≤ 1000 := by have := hA.at1; have := hA.at2; have := adv_ge k.T c u; omega
  clear hI hA hK hl hraw0 hraw1 hraw2 hraw3 hx hyq0 hyq1 hyq2 hyq3
  have w0 : ¬ ((rl : Int) - (rpos : Int) < 4) := by omega
  have w1 : decide ((rl : Int) - (rpos : Int) < 4) = false := decide_eq_false w0
  conv => arg 2; whnf
  go_wp2_with fail
  go_quiet (fail)
  go_wp2_with fail
  go_quiet (fail)
  go_wp2_with fail
  go_quiet (fail)
  go_wp2_with fail
  refine wp_loop_rounds 4 ?_
  rw [rounds_succ]
  go_wp2_with fail
  go_quiet (fail)
  go_wp2_with fail
  rw [rounds_succ]
  go_wp2_with fail
  go_quiet (fail)
  go_wp2_with fail
  rw [rounds_succ]
  go_wp2_with fail
  go_quiet (fail)
  go_wp2_with fail
  obtain ⟨v, HV⟩ : ∃ v, Hid (((x % 8 * 64 + y % 64) * 64 + z % 64) * 64 + t % 64 = v) := ⟨_, rfl⟩
  rw [HV.out]
  have hv : 65536 ≤ v ∧ v ≤ 1114111 := by
    have h1 := HV.out
    have h2 := HOX.out
    unfold Ok4 at h2
    omega
  have d1 : decide (128 ≤ v) = true := by simp; omega
  have d2 : decide (2048 ≤ v) = true := by simp; omega
  have d3 : decide (65536 ≤ v) = true := by simp; omega
  have d5 : decide (1114111 < v) = false := by simp; omega
  have d7 : decide (32 ≤ v) = true := by simp; omega
  have d8 : decide (v ≤ 126) = false := by simp; omega
  have d16 : decide (v ≤ 127) = false := by simp; omega
  have d17 : decide (v ≤ 2047) = false := by simp; omega
  have d18 : decide (v ≤ 65535) = false := by simp; omega
  have q9 : (v == 9) = false := by simp; omega
  have q10 : (v == 10) = false := by simp; omega
  have q13 : (v == 13) = false := by simp; omega
  rw [rounds_succ]
  have hx1 := HV.out
  clear hx1
  have g133 : (v == 133) = false := by simp; omega
  have g0 : decide (55296 ≤ v) = true := by simp; omega
  have g1 : decide (v ≤ 57343) = false := by simp; omega
  have g2 : decide (160 ≤ v) = true := by simp; omega
  have g3 : decide (v ≤ 55295) = false := by simp; omega
  have g4 : decide (57344 ≤ v) = true := by simp; omega
  have g5 : decide (v ≤ 65533) = false := by simp; omega
  have g6 : decide (v ≤ 1114111) = true := by simp; omega
  clear hv
  go_wp2_with fail
  have E0 : wrap32 (240 + v / 262144) % 256 = x := by rw [IntWalk.wrap32_in _ (by have := HV.out; omega)]; have := HV.out; omega
  have E1 : wrap32 (128 + Go.bits .and .i32 (v / 4096) 63) % 256 = y := by rw [m63 (v / 4096) (by have := HV.out; omega) (by have := HV.out; omega)]; rw [IntWalk.wrap32_in _ (by have := HV.out; omega)]; have := HV.out; omega
  have E2 : wrap32 (128 + Go.bits .and .i32 (v / 64) 63) % 256 = z := by rw [m63 (v / 64) (by have := HV.out; omega) (by have := HV.out; omega)]; rw [IntWalk.wrap32_in _ (by have := HV.out; omega)]; have := HV.out; omega
  have E3 : wrap32 (128 + Go.bits .and .i32 v 63) % 256 = t := by rw [m63 v (by have := HV.out; omega) (by have := HV.out; omega)]; rw [IntWalk.wrap32_in _ (by have := HV.out; omega)]; have := HV.out; omega
  rw [E0, E1, E2, E3]
  have hfin := fun N => (hHI.out.drewN N).eat4 hHA.out (by omega) hnx hb (v18 := (u : Int) + 1) (v21 := (rpos : Int) + 4) (v23 := (off : Int) + 4) (x0 := x) (x1 := y) (x2 := z) (x3 := t) (by omega) (by omega) (by have := HOFF.out; omega) HX.out HY.out HZ.out HT.out
  exact HKK.out _ _ _ _ ⟨rfl, rfl, by rw [h0]; rfl, rfl, rfl, rfl⟩ (hfin _).1 (hfin 0).2.1 (hfin 0).2.2
end Go.Proofs.YtocbbekciphjgaaDoor.Pa
/- PaR -/
/- A character that is not whole in the raw buffer ends the inner loop (yaml_parser_update_buffer): the walk; what a round does with any character. Printed by genPaR.py. -/
namespace Go.Proofs.YtocbbekciphjgaaDoor.Pa
open Go.RowKit Go.Proofs.YtocbbekciphjgaaDoor.Rdp
set_option linter.unusedVariables false
set_option linter.unusedSimpArgs false
set_option maxHeartbeats 8000000 in
set_option maxRecDepth 100000 in
theorem cut2 {k : Kn} {p c u b rl rpos ip : Nat} {L0 L RL BL : List Value} {w0 w : World} {a : Act} {K : Act → World → Prop} {Q : Exit → Act → World → Prop} (hI : Inn k p c u b rl rpos ip false L0 L RL BL w0 w) (hlt : rpos < rl) (hless : rl - rpos < 2)
    (hx : 194 ≤ S k.T (ip - (rl - rpos)) ∧ S k.T (ip - (rl - rpos)) ≤ 223) (hsz : a.tmps.size = 690) (hdf : a.defers = []) (h0 : gt a 0 = .pointer (some ⟨p, 0, none⟩)) (h5 : gt a 5 = .int .i64 (b : Nat))
    (hK : ∀ a' w', Fr a a' b → Inn k p c u b rl rpos ip false L0 L RL BL w0 w' → Q (.exit 2) a' w') :
    iBody.wp Tryd.prog (Exit.then K Q) a w := by
  have hl := hI.lay
  have hraw := hl.raw 0 (by omega)
  rw [Nat.add_zero, Nat.add_zero] at hraw
  obtain ⟨x, HX⟩ : ∃ x, Hid (x = S k.T (ip - (rl - rpos))) := ⟨_, rfl⟩
  rw [← HX.out] at hraw hx
  obtain ⟨t1, t2, t3, t4, t5, _⟩ := bits_at x (by omega) (by omega)
  rw [show decide (x < 128) = false by simp; omega] at t1
  rw [show decide (192 ≤ x ∧ x < 224) = true by simp; omega] at t2
  rw [show decide (224 ≤ x ∧ x < 240) = false by simp; omega] at t3
  rw [show decide (240 ≤ x ∧ x < 248) = false by simp; omega] at t4
  obtain ⟨x0, x1⟩ := hx
  obtain ⟨c15, f15⟩ := hl.pb.at 15 hl.at15
  obtain ⟨c16, f16⟩ := hl.pb.at 16 hI.at16
  obtain ⟨c18, f18⟩ := hl.pb.at 18 hl.at18
  obtain ⟨c20, f20⟩ := hl.pb.at 20 hl.at20
  obtain ⟨c21, f21⟩ := hl.pb.at 21 hl.at21
  obtain ⟨c22, f22⟩ := hl.pb.at 22 hI.at22
  obtain ⟨c23, f23⟩ := hl.pb.at 23 hl.at23
  obtain ⟨cr, fr⟩ := hl.rb.at rpos hraw
  unfold by8 at cr
  have hHI := Lib.hid hI
  have HKK := Lib.hid hK
  have e1 : ((rpos : Int) != (rl : Int)) = true := by rw [bne_iff_ne]; omega
  have e2 : (rpos != rl) = true := by rw [bne_iff_ne]; omega
  have e3 : (rpos : Int) ≤ (rl : Int) := by omega
  have e4 : (rl : Int) ≤ 512 := by have := hl.hrl; omega
  have e5 : (0 : Int) ≤ (rpos : Int) := by omega
  have e6 : (rpos : Int) < (rl : Int) := by omega
  rw [lit690 a hsz hdf, h0, h5]
  obtain ⟨off, HOFF⟩ : ∃ off : Nat, Hid (ip - (rl - rpos) = off) := ⟨_, rfl⟩
  have e11 : (off : Int) ≤ 2147483647 := by have := hI.ok.tlen; have := hl.hip; have := HOFF.out; omega
  rw [HOFF.out] at c23
  have hpq : ¬ p = k.q := hI.ok.pq
  have hqp : ¬ k.q = p := Ne.symm hI.ok.pq
  have w0 : (rl : Int) - (rpos : Int) < 2 := by omega
  have w1 : decide ((rl : Int) - (rpos : Int) < 2) = true := decide_eq_true w0
  clear hI hK hl hraw
  conv => arg 2; whnf
  go_wp2_with fail
  go_quiet (fail)
  go_wp2_with fail
  go_quiet (fail)
  go_wp2_with fail
  go_quiet (fail)
  go_wp2_with fail
  exact HKK.out _ _ ⟨rfl, rfl, by rw [h0]; rfl, rfl, rfl, rfl⟩ (hHI.out.drewN _)
set_option maxHeartbeats 8000000 in
set_option maxRecDepth 100000 in
theorem cut3 {k : Kn} {p c u b rl rpos ip : Nat} {L0 L RL BL : List Value} {w0 w : World} {a : Act} {K : Act → World → Prop} {Q : Exit → Act → World → Prop} (hI : Inn k p c u b rl rpos ip false L0 L RL BL w0 w) (hlt : rpos < rl) (hless : rl - rpos < 3)
    (hx : 224 ≤ S k.T (ip - (rl - rpos)) ∧ S k.T (ip - (rl - rpos)) ≤ 239) (hsz : a.tmps.size = 690) (hdf : a.defers = []) (h0 : gt a 0 = .pointer (some ⟨p, 0, none⟩)) (h5 : gt a 5 = .int .i64 (b : Nat))
    (hK : ∀ a' w', Fr a a' b → Inn k p c u b rl rpos ip false L0 L RL BL w0 w' → Q (.exit 2) a' w') :
    iBody.wp Tryd.prog (Exit.then K Q) a w := by
  have hl := hI.lay
  have hraw := hl.raw 0 (by omega)
  rw [Nat.add_zero, Nat.add_zero] at hraw
  obtain ⟨x, HX⟩ : ∃ x, Hid (x = S k.T (ip - (rl - rpos))) := ⟨_, rfl⟩
  rw [← HX.out] at hraw hx
  obtain ⟨t1, t2, t3, t4, t5, _⟩ := bits_at x (by omega) (by omega)
  rw [show decide (x < 128) = false by simp; omega] at t1
  rw [show decide (192 ≤ x ∧ x < 224) = false by simp; omega] at t2
  rw [show decide (224 ≤ x ∧ x < 240) = true by simp; omega] at t3
  rw [show decide (240 ≤ x ∧ x < 248) = false by simp; omega] at t4
  obtain ⟨x0, x1⟩ := hx
  obtain ⟨c15, f15⟩ := hl.pb.at 15 hl.at15
  obtain ⟨c16, f16⟩ := hl.pb.at 16 hI.at16
  obtain ⟨c18, f18⟩ := hl.pb.at 18 hl.at18
  obtain ⟨c20, f20⟩ := hl.pb.at 20 hl.at20
  obtain ⟨c21, f21⟩ := hl.pb.at 21 hl.at21
  obtain ⟨c22, f22⟩ := hl.pb.at 22 hI.at22
  obtain ⟨c23, f23⟩ := hl.pb.at 23 hl.at23
  obtain ⟨cr, fr⟩ := hl.rb.at rpos hraw
  unfold by8 at cr
  have hHI := Lib.hid hI
  have HKK := Lib.hid hK
  have e1 : ((rpos : Int) != (rl : Int)) = true := by rw [bne_iff_ne]; omega
  have e2 : (rpos != rl) = true := by rw [bne_iff_ne]; omega
  have e3 : (rpos : Int) ≤ (rl : Int) := by omega
  have e4 : (rl : Int) ≤ 512 := by have := hl.hrl; omega
  have e5 : (0 : Int) ≤ (rpos : Int) := by omega
  have e6 : (rpos : Int) < (rl : Int) := by omega
  rw [lit690 a hsz hdf, h0, h5]
  obtain ⟨off, HOFF⟩ : ∃ off : Nat, Hid (ip - (rl - rpos) = off) := ⟨_, rfl⟩
  have e11 : (off : Int) ≤ 2147483647 := by have := hI.ok.tlen; have := hl.hip; have := HOFF.out; omega
  rw [HOFF.out] at c23
  have hpq : ¬ p = k.q := hI.ok.pq
  have hqp : ¬ k.q = p := Ne.symm hI.ok.pq
  have w0 : (rl : Int) - (rpos : Int) < 3 := by omega
  have w1 : decide ((rl : Int) - (rpos : Int) < 3) = true := decide_eq_true w0
  clear hI hK hl hraw
  conv => arg 2; whnf
  go_wp2_with fail
  go_quiet (fail)
  go_wp2_with fail
  go_quiet (fail)
  go_wp2_with fail
  go_quiet (fail)
  go_wp2_with fail
  exact HKK.out _ _ ⟨rfl, rfl, by rw [h0]; rfl, rfl, rfl, rfl⟩ (hHI.out.drewN _)
set_option maxHeartbeats 8000000 in
set_option maxRecDepth 100000 in
theorem cut4 {k : Kn} {p c u b rl rpos ip : Nat} {L0 L RL BL : List Value} {w0 w : World} {a : Act} {K : Act → World → Prop} {Q : Exit → Act → World → Prop} (hI : Inn k p c u b rl rpos ip false L0 L RL BL w0 w) (hlt : rpos < rl) (hless : rl - rpos < 4)
    (hx : 240 ≤ S k.T (ip - (rl - rpos)) ∧ S k.T (ip - (rl - rpos)) ≤ 244) (hsz : a.tmps.size = 690) (hdf : a.defers = []) (h0 : gt a 0 = .pointer (some ⟨p, 0, none⟩)) (h5 : gt a 5 = .int .i64 (b : Nat))
    (hK : ∀ a' w', Fr a a' b → Inn k p c u b rl rpos ip false L0 L RL BL w0 w' → Q (.exit 2) a' w') :
    iBody.wp Tryd.prog (Exit.then K Q) a w := by
  have hl := hI.lay
  have hraw := hl.raw 0 (by omega)
  rw [Nat.add_zero, Nat.add_zero] at hraw
  obtain ⟨x, HX⟩ : ∃ x, Hid (x = S k.T (ip - (rl - rpos))) := ⟨_, rfl⟩
  rw [← HX.out] at hraw hx
  obtain ⟨t1, t2, t3, t4, t5, _⟩ := bits_at x (by omega) (by omega)
  rw [show decide (x < 128) = false by simp; omega] at t1
  rw [show decide (192 ≤ x ∧ x < 224) = false by simp; omega] at t2
  rw [show decide (224 ≤ x ∧ x < 240) = false by simp; omega] at t3
  rw [show decide (240 ≤ x ∧ x < 248) = true by simp; omega] at t4
  obtain ⟨x0, x1⟩ := hx
  obtain ⟨c15, f15⟩ := hl.pb.at 15 hl.at15
  obtain ⟨c16, f16⟩ := hl.pb.at 16 hI.at16
  obtain ⟨c18, f18⟩ := hl.pb.at 18 hl.at18
  obtain ⟨c20, f20⟩ := hl.pb.at 20 hl.at20
  obtain ⟨c21, f21⟩ := hl.pb.at 21 hl.at21
  obtain ⟨c22, f22⟩ := hl.pb.at 22 hI.at22
  obtain ⟨c23, f23⟩ := hl.pb.at 23 hl.at23
  obtain ⟨cr, fr⟩ := hl.rb.at rpos hraw
  unfold by8 at cr
  have hHI := Lib.hid hI
  have HKK := Lib.hid hK
  have e1 : ((rpos : Int) != (rl : Int)) = true := by rw [bne_iff_ne]; omega
  have e2 : (rpos != rl) = true := by rw [bne_iff_ne]; omega
  have e3 : (rpos : Int) ≤ (rl : Int) := by omega
  have e4 : (rl : Int) ≤ 512 := by have := hl.hrl; omega
  have e5 : (0 : Int) ≤ (rpos : Int) := by omega
  have e6 : (rpos : Int) < (rl : Int) := by omega
  rw [lit690 a hsz hdf, h0, h5]
  obtain ⟨off, HOFF⟩ : ∃ off : Nat, Hid (ip - (rl - rpos) = off) := ⟨_, rfl⟩
  have e11 : (off : Int) ≤ 2147483647 := by have := hI.ok.tlen; have := hl.hip; have := HOFF.out; omega
  rw [HOFF.out] at c23
  have hpq : ¬ p = k.q := hI.ok.pq
  have hqp : ¬ k.q = p := Ne.symm hI.ok.pq
  have w0 : (rl : Int) - (rpos : Int) < 4 := by omega
  have w1 : decide ((rl : Int) - (rpos : Int) < 4) = true := decide_eq_true w0
  clear hI hK hl hraw
  conv => arg 2; whnf
  go_wp2_with fail
  go_quiet (fail)
  go_wp2_with fail
  go_quiet (fail)
  go_wp2_with fail
  go_quiet (fail)
  go_wp2_with fail
  exact HKK.out _ _ ⟨rfl, rfl, by rw [h0]; rfl, rfl, rfl, rfl⟩ (hHI.out.drewN _)
/-- In a text of characters that may stand there. -/
theorem round_utf8 (k : Kn) (p : Nat) (hG : Rdp.Good k.T) : RoundOk k p := by
  intro c u b rl rpos ip eof L0 L RL BL w0 w a K Q hI hA hb hlt he hsz hdf h0 h5 hK hX
  have hip := hI.lay.hip
  have hraw := hI.lay.hraw
  obtain ⟨ho, hle⟩ := hG.chars _ hA.bd (by omega)
  have hw : ∀ m, nx k.T (ip - (rl - rpos)) = ip - (rl - rpos) + m → ¬ rpos + m ≤ rl → eof = false ∧ rl - rpos < m ∧ ip < nx k.T (ip - (rl - rpos)) := by
    intro m hm hn
    refine ⟨?_, by omega, by omega⟩
    cases eof with
    | false => rfl
    | true =>
      have := he rfl
      omega
  rcases ok_cw ho with ⟨h, hn⟩ | ⟨h, hn⟩ | ⟨h, hn⟩ | ⟨h, hn⟩
  · exact in1 hI hA hb hlt h hn hsz hdf h0 h5 fun a' w' L' BL' h1 h2 h3 h4 => hK a' w' 1 L' BL' (Nat.le_refl _) (by omega) h1 h2 h3 h4
  · by_cases hf : rpos + 2 ≤ rl
    · exact in2 hI hA hb hf h hn hsz hdf h0 h5 fun a' w' L' BL' h1 h2 h3 h4 => hK a' w' 2 L' BL' (by omega) (by omega) h1 h2 h3 h4
    · obtain ⟨rfl, hls, hlt2⟩ := hw 2 hn hf
      exact cut2 hI hlt hls (by unfold Ok2 at h; omega) hsz hdf h0 h5 fun a' w' h1 h2 => hX a' w' hlt2 h1 h2
  · by_cases hf : rpos + 3 ≤ rl
    · exact in3 hI hA hb hf h hn hsz hdf h0 h5 fun a' w' L' BL' h1 h2 h3 h4 => hK a' w' 3 L' BL' (by omega) (by omega) h1 h2 h3 h4
    · obtain ⟨rfl, hls, hlt2⟩ := hw 3 hn hf
      exact cut3 hI hlt hls (by unfold Ok3 at h; omega) hsz hdf h0 h5 fun a' w' h1 h2 => hX a' w' hlt2 h1 h2
  · by_cases hf : rpos + 4 ≤ rl
    · exact in4 hI hA hb hf h hn hsz hdf h0 h5 fun a' w' L' BL' h1 h2 h3 h4 => hK a' w' 4 L' BL' (by omega) (by omega) h1 h2 h3 h4
    · obtain ⟨rfl, hls, hlt2⟩ := hw 4 hn hf
      exact cut4 hI hlt hls (by unfold Ok4 at h; omega) hsz hdf h0 h5 fun a' w' h1 h2 => hX a' w' hlt2 h1 h2
end Go.Proofs.YtocbbekciphjgaaDoor.Pa
/- AnF -/
/- What was scanned is told (impl.scanned); the buffer is filled (cache, ZzCache); an anchor is scanned (ZzScanAnchor): the walks. Printed by genAnF.py. -/
namespace Go.Proofs.YtocbbekciphjgaaDoor.Sc
open Go.RowKit Go.Proofs.YtocbbekciphjgaaDoor.Rdp Go.Proofs.YtocbbekciphjgaaDoor.Pa
set_option linter.unusedVariables false
set_option linter.unusedSimpArgs false
set_option maxHeartbeats 4000000 in
set_option maxRecDepth 100000 in
theorem scanned_ok (vp : Value) (t : Nat) (ty s0 s1 s2 e0 e1 e2 en : Int) (v1 v2 v3 : Value) (sy ma mi : Int) (l1 l2 l3 : List Int) (w0 : World) (h : Bk w0 t 78 (tok ty s0 s1 s2 e0 e1 e2 en v1 v2 v3 sy ma mi)) (h1 : Tx w0 v1 l1) (h2 : Tx w0 v2 l2) (h3 : Tx w0 v3 l3) (hsy : IntKind.i64.wrap sy = sy) (hma : IntKind.i64.wrap ma = ma) (hmi : IntKind.i64.wrap mi = mi) :
    Calls Tryd.prog 38 #[vp, .pointer (some ⟨t, 0, none⟩), .bool true] w0 fun e w' => e = .returned (.tuple #[.agg (full ty s0 s1 s2 e0 e1 e2 en l1 l2 l3 sy ma mi).toArray, .agg (nine 0 0 0 0 0 0 0 0 0).toArray]) ∧ Below w0.heap.size w0 w' := by
  obtain ⟨wa, HWA⟩ : ∃ wa : World, Hid (((w0.alloc (.cells (full 0 0 0 0 0 0 0 0 [] [] [] 0 0 0).toArray 37)).alloc (.cells (nine 0 0 0 0 0 0 0 0 0).toArray 31)) = wa) := ⟨_, rfl⟩
  have hb6 : Bk wa w0.heap.size 37 (full 0 0 0 0 0 0 0 0 [] [] [] 0 0 0) := by rw [← HWA.out]; exact (Bk.new _ _ _).alloc _
  have hb7 : Bk wa (w0.heap.size + 1) 31 (nine 0 0 0 0 0 0 0 0 0) := by
    have := Bk.new (w0.alloc (.cells (full 0 0 0 0 0 0 0 0 [] [] [] 0 0 0).toArray 37)) (nine 0 0 0 0 0 0 0 0 0) 31
    simp only [World.size_alloc] at this
    rw [← HWA.out]
    exact this
  have hb0 : Below w0.heap.size w0 wa := by rw [← HWA.out]; exact ((Below.refl _ _).alloc (Nat.le_refl _) _).alloc (by simp) _
  have ht : Bk wa t 78 (tok ty s0 s1 s2 e0 e1 e2 en v1 v2 v3 sy ma mi) := by rw [← HWA.out]; exact (h.alloc _).alloc _
  have hsz : wa.heap.size = w0.heap.size + 2 := by rw [← HWA.out]; simp
  have HB6 := Lib.hid hb6
  have HB7 := Lib.hid hb7
  have HB0 := Lib.hid hb0
  have HT := Lib.hid ht
  have H1 := Lib.hid (h1.below hb0)
  have H2 := Lib.hid (h2.below hb0)
  have H3 := Lib.hid (h3.below hb0)
  clear h hb6 hb7 hb0 ht h1 h2 h3
  go_enter Tryd.func38, Tryd.ntmps38
  go_upto_region 1 with fail
  rw [show (w0.alloc (.cells #[.int .i64 0, .int .i64 0, .int .i64 0, .int .i64 0, .int .i64 0, .int .i64 0, .int .i64 0, .string ⟨#[]⟩, .string ⟨#[]⟩, .string ⟨#[]⟩, .int .i64 0, .int .i64 0, .int .i64 0, .int .i64 0] 37)).alloc (.cells #[.int .i64 0, .int .i64 0, .int .i64 0, .int .i64 0, .int .i64 0, .int .i64 0, .int .i64 0, .int .i64 0, .int .i64 0] 31) = wa from HWA.out]
  go_wp2_with fail
  refine (token_any t ty s0 s1 s2 e0 e1 e2 en v1 v2 v3 sy ma mi l1 l2 l3 wa HT.out H1.out H2.out H3.out hsy hma hmi).mono ?_
  rintro e w1 ⟨rfl, hb1⟩
  have hk1 : Kp [] wa w1 := Kp.of_below hb1
  have h6 := HB6.out.kp hk1 (by simp)
  have h7 := HB7.out.kp hk1 (by simp)
  have HBF := Lib.hid (HB0.out.trans (hb1.mono (by omega)))
  obtain ⟨e0, f0⟩ := at_ h6 0 rfl
  obtain ⟨e1, f1⟩ := at_ h6 1 rfl
  obtain ⟨e2, f2⟩ := at_ h6 2 rfl
  obtain ⟨e3, f3⟩ := at_ h6 3 rfl
  obtain ⟨e4, f4⟩ := at_ h6 4 rfl
  obtain ⟨e5, f5⟩ := at_ h6 5 rfl
  obtain ⟨e6, f6⟩ := at_ h6 6 rfl
  obtain ⟨e7, f7⟩ := at_ h6 7 rfl
  obtain ⟨e8, f8⟩ := at_ h6 8 rfl
  obtain ⟨e9, f9⟩ := at_ h6 9 rfl
  obtain ⟨e10, f10⟩ := at_ h6 10 rfl
  obtain ⟨e11, f11⟩ := at_ h6 11 rfl
  obtain ⟨e12, f12⟩ := at_ h6 12 rfl
  obtain ⟨e13, f13⟩ := at_ h6 13 rfl
  obtain ⟨c0, g0⟩ := at_ h7 0 rfl
  obtain ⟨c1, g1⟩ := at_ h7 1 rfl
  obtain ⟨c2, g2⟩ := at_ h7 2 rfl
  obtain ⟨c3, g3⟩ := at_ h7 3 rfl
  obtain ⟨c4, g4⟩ := at_ h7 4 rfl
  obtain ⟨c5, g5⟩ := at_ h7 5 rfl
  obtain ⟨c6, g6⟩ := at_ h7 6 rfl
  obtain ⟨c7, g7⟩ := at_ h7 7 rfl
  obtain ⟨c8, g8⟩ := at_ h7 8 rfl
  have H6 := Lib.hid h6
  have H7 := Lib.hid h7
  clear h6 h7 hb1 hk1 HB6 HB7 HB0 HT H1 H2 H3 HWA
  unfold full
  go_wp2_with fail
  clear e0 e1 e2 e3 e4 e5 e6 e7 e8 e9 e10 e11 e12 e13 f0 f1 f2 f3 f4 f5 f6 f7 f8 f9 f10 f11 f12 f13 c0 c1 c2 c3 c4 c5 c6 c7 c8 g0 g1 g2 g3 g4 g5 g6 g7 g8
  have ne1 : w0.heap.size ≠ w0.heap.size + 1 := by omega
  have ne2 : w0.heap.size + 1 ≠ w0.heap.size := by omega
  have h4 := (((((((((((((((((((((((H6.out.set 0 (.int .i64 ty)).set 1 (.int .i64 s0)).set 2 (.int .i64 s1)).set 3 (.int .i64 s2)).set 4 (.int .i64 e0)).set 5 (.int .i64 e1)).set 6 (.int .i64 e2)).set 7 (.string (strOfNums l1))).set 8 (.string (strOfNums l2))).set 9 (.string (strOfNums l3))).set 10 (.int .i64 (sty sy))).set 11 (.int .i64 en)).set 12 (.int .i64 ma)).set 13 (.int .i64 mi)).other (w0.heap.size + 1) 0 (.int .i64 0) ne1).other (w0.heap.size + 1) 1 (.int .i64 0) ne1).other (w0.heap.size + 1) 2 (.int .i64 0) ne1).other (w0.heap.size + 1) 3 (.int .i64 0) ne1).other (w0.heap.size + 1) 4 (.int .i64 0) ne1).other (w0.heap.size + 1) 5 (.int .i64 0) ne1).other (w0.heap.size + 1) 6 (.int .i64 0) ne1).other (w0.heap.size + 1) 7 (.int .i64 0) ne1).other (w0.heap.size + 1) 8 (.int .i64 0) ne1)
  have h5 := (((((((((((((((((((((((H7.out.other w0.heap.size 0 (.int .i64 ty) ne2).other w0.heap.size 1 (.int .i64 s0) ne2).other w0.heap.size 2 (.int .i64 s1) ne2).other w0.heap.size 3 (.int .i64 s2) ne2).other w0.heap.size 4 (.int .i64 e0) ne2).other w0.heap.size 5 (.int .i64 e1) ne2).other w0.heap.size 6 (.int .i64 e2) ne2).other w0.heap.size 7 (.string (strOfNums l1)) ne2).other w0.heap.size 8 (.string (strOfNums l2)) ne2).other w0.heap.size 9 (.string (strOfNums l3)) ne2).other w0.heap.size 10 (.int .i64 (sty sy)) ne2).other w0.heap.size 11 (.int .i64 en) ne2).other w0.heap.size 12 (.int .i64 ma) ne2).other w0.heap.size 13 (.int .i64 mi) ne2).set 0 (.int .i64 0)).set 1 (.int .i64 0)).set 2 (.int .i64 0)).set 3 (.int .i64 0)).set 4 (.int .i64 0)).set 5 (.int .i64 0)).set 6 (.int .i64 0)).set 7 (.int .i64 0)).set 8 (.int .i64 0))
  have hbf := (((((((((((((((((((((((HBF.out.setCell (p := ⟨w0.heap.size, 0, none⟩) (by simp) (.int .i64 ty)).setCell (p := ⟨w0.heap.size, 1, none⟩) (by simp) (.int .i64 s0)).setCell (p := ⟨w0.heap.size, 2, none⟩) (by simp) (.int .i64 s1)).setCell (p := ⟨w0.heap.size, 3, none⟩) (by simp) (.int .i64 s2)).setCell (p := ⟨w0.heap.size, 4, none⟩) (by simp) (.int .i64 e0)).setCell (p := ⟨w0.heap.size, 5, none⟩) (by simp) (.int .i64 e1)).setCell (p := ⟨w0.heap.size, 6, none⟩) (by simp) (.int .i64 e2)).setCell (p := ⟨w0.heap.size, 7, none⟩) (by simp) (.string (strOfNums l1))).setCell (p := ⟨w0.heap.size, 8, none⟩) (by simp) (.string (strOfNums l2))).setCell (p := ⟨w0.heap.size, 9, none⟩) (by simp) (.string (strOfNums l3))).setCell (p := ⟨w0.heap.size, 10, none⟩) (by simp) (.int .i64 (sty sy))).setCell (p := ⟨w0.heap.size, 11, none⟩) (by simp) (.int .i64 en)).setCell (p := ⟨w0.heap.size, 12, none⟩) (by simp) (.int .i64 ma)).setCell (p := ⟨w0.heap.size, 13, none⟩) (by simp) (.int .i64 mi)).setCell (p := ⟨(w0.heap.size + 1), 0, none⟩) (by simp) (.int .i64 0)).setCell (p := ⟨(w0.heap.size + 1), 1, none⟩) (by simp) (.int .i64 0)).setCell (p := ⟨(w0.heap.size + 1), 2, none⟩) (by simp) (.int .i64 0)).setCell (p := ⟨(w0.heap.size + 1), 3, none⟩) (by simp) (.int .i64 0)).setCell (p := ⟨(w0.heap.size + 1), 4, none⟩) (by simp) (.int .i64 0)).setCell (p := ⟨(w0.heap.size + 1), 5, none⟩) (by simp) (.int .i64 0)).setCell (p := ⟨(w0.heap.size + 1), 6, none⟩) (by simp) (.int .i64 0)).setCell (p := ⟨(w0.heap.size + 1), 7, none⟩) (by simp) (.int .i64 0)).setCell (p := ⟨(w0.heap.size + 1), 8, none⟩) (by simp) (.int .i64 0))
  have e0 := at_ h4 0 rfl
  have e1 := at_ h4 1 rfl
  have e2 := at_ h4 2 rfl
  have e3 := at_ h4 3 rfl
  have e4 := at_ h4 4 rfl
  have e5 := at_ h4 5 rfl
  have e6 := at_ h4 6 rfl
  have e7 := at_ h4 7 rfl
  have e8 := at_ h4 8 rfl
  have e9 := at_ h4 9 rfl
  have e10 := at_ h4 10 rfl
  have e11 := at_ h4 11 rfl
  have e12 := at_ h4 12 rfl
  have e13 := at_ h4 13 rfl
  have c0 := at_ h5 0 rfl
  have c1 := at_ h5 1 rfl
  have c2 := at_ h5 2 rfl
  have c3 := at_ h5 3 rfl
  have c4 := at_ h5 4 rfl
  have c5 := at_ h5 5 rfl
  have c6 := at_ h5 6 rfl
  have c7 := at_ h5 7 rfl
  have c8 := at_ h5 8 rfl
  (try simp only [Exit.inBlock, Exit.then])
  refine bodyPost_ret (by simp [results, Tryd.results38, e0.1, e1.1, e2.1, e3.1, e4.1, e5.1, e6.1, e7.1, e8.1, e9.1, e10.1, e11.1, e12.1, e13.1, c0.1, c1.1, c2.1, c3.1, c4.1, c5.1, c6.1, c7.1, c8.1, go_sem]; try rfl) rfl ?_
  exact ⟨rfl, hbf⟩
set_option maxHeartbeats 2000000 in
theorem cache_any (k : Kn) (p c u bp bl n : Nat) (L : List Value) (w : World) (hr : RoundOk k p) (h : Rdr k p c u bp bl L w) (hn : 1 ≤ n) (hn8 : n ≤ 8) (hg : 2 < w.heap.size) :
    Calls Tryd.prog 69 #[.pointer (some ⟨p, 0, none⟩), .int .i64 n] w fun e w' => e = .returned (.bool true) ∧ Upd k p c u n L w w' := by
  obtain ⟨c18, f18⟩ := at_ h.pb 18 h.at18
  have H := Lib.hid h
  have HR := Lib.hid hr
  clear h hr
  by_cases hu : n ≤ u
  · have e1 : decide ((n : Int) ≤ (u : Int)) = true := by simp; omega
    have e2 : decide (n ≤ u) = true := by simp; omega
    have HU := Lib.hid hu
    clear hu
    go_enter Tryd.func69, Tryd.ntmps69
    go_wp2_with fail
    go_ret
    exact ⟨rfl, upd_same H.out hn HU.out 0⟩
  · have e1 : decide ((n : Int) ≤ (u : Int)) = false := by simp; omega
    have e2 : decide (n ≤ u) = false := by simp; omega
    have HU := Lib.hid hu
    clear hu
    go_enter Tryd.func69, Tryd.ntmps69
    go_wp2_with fail
    refine (ub_any k p c u bp bl n L w HR.out H.out hn hn8 hg).mono ?_
    rintro e w1 ⟨rfl, hupd⟩
    have HUP := Lib.hid hupd
    clear hupd
    go_wp2_with fail
    go_ret
    exact ⟨rfl, HUP.out⟩
set_option maxHeartbeats 2000000 in
theorem zcache_any (k : Kn) (p c u bp bl n : Nat) (L : List Value) (w : World) (hr : RoundOk k p) (h : Rdr k p c u bp bl L w) (hn : 1 ≤ n) (hn8 : n ≤ 8) (hg : 2 < w.heap.size) :
    Calls Tryd.prog 39 #[.pointer (some ⟨p, 0, none⟩), .int .i64 n] w fun e w' => e = .returned (.bool true) ∧ Upd k p c u n L w w' := by
  have H := Lib.hid h
  have HR := Lib.hid hr
  clear h hr
  go_enter Tryd.func39, Tryd.ntmps39
  go_wp2_with fail
  refine (cache_any k p c u bp bl n L w HR.out H.out hn hn8 hg).mono ?_
  rintro e w1 ⟨rfl, hupd⟩
  have HUP := Lib.hid hupd
  clear hupd
  go_wp2_with fail
  go_ret
  exact ⟨rfl, HUP.out⟩
set_option maxHeartbeats 2000000 in
theorem zanchor_any (vp vt : Value) (kd : Int) (b : Bool) (w : World) (Q : World → Prop) (hc : Calls Tryd.prog 70 #[vp, vt, .int .i64 kd] w fun e w' => e = .returned (.bool b) ∧ Q w') :
    Calls Tryd.prog 40 #[vp, vt, .int .i64 kd] w fun e w' => e = .returned (.bool b) ∧ Q w' := by
  have HC := Lib.hid hc
  clear hc
  go_enter Tryd.func40, Tryd.ntmps40
  go_wp2_with fail
  refine HC.out.mono ?_
  rintro e w1 ⟨rfl, hq⟩
  have HQ := Lib.hid hq
  clear hq
  go_wp2_with fail
  go_ret
  exact ⟨rfl, HQ.out⟩
end Go.Proofs.YtocbbekciphjgaaDoor.Sc
