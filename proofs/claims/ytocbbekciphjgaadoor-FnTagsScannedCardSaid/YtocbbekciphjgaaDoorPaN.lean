/- The raw buffer's characters are decoded, one behind another (yaml_parser_update_buffer, the inner loop). -/
import Derived.Test.YtocbbekciphjgaaDoorPaM
namespace Go.Proofs.YtocbbekciphjgaaDoor.Pa
open Go.RowKit Go.Proofs.YtocbbekciphjgaaDoor.Rdp
set_option linter.unusedVariables false
set_option linter.unusedSimpArgs false
/-- What one round of the inner loop does. -/
def RoundOk (k : Kn) (p : Nat) : Prop := ∀ (c u b rl rpos ip : Nat) (eof : Bool) (L0 L RL BL : List Value) (w0 w : World) (a : Act) (K : Act → World → Prop) (Q : Exit → Act → World → Prop), Inn k p c u b rl rpos ip eof L0 L RL BL w0 w → ModeA k.T c u b (rl - rpos) ip →
  b + (rl - rpos) ≤ 540 → rpos < rl → (eof = true → ip = k.T.length) → a.tmps.size = 690 → a.defers = [] → gt a 0 = .pointer (some ⟨p, 0, none⟩) → gt a 5 = .int .i64 (b : Nat) →
  (∀ a' w' m L' BL', 1 ≤ m → m ≤ rl - rpos → Fr a a' (b + m) → Inn k p c (u + 1) (b + m) rl (rpos + m) ip eof L0 L' RL BL' w0 w' → ModeA k.T c (u + 1) (b + m) (rl - (rpos + m)) ip → b + m + (rl - (rpos + m)) ≤ 540 → K a' w') →
  (∀ a' w', ip < nx k.T (ip - (rl - rpos)) → Fr a a' b → Inn k p c u b rl rpos ip eof L0 L RL BL w0 w' → Q (.exit 2) a' w') → iBody.wp Tryd.prog (Exit.then K Q) a w
theorem cw_ok1 {x : Int} (h : Ok1 x) : cw x = 1 := by
  unfold Ok1 at h
  unfold cw
  rw [if_pos (by omega)]
/-- In a text in ASCII. -/
theorem round_ascii (k : Kn) (p : Nat) (h : ∀ i, i < k.T.length → Ok1 (S k.T i)) : RoundOk k p := by
  intro c u b rl rpos ip eof L0 L RL BL w0 w a K Q hI hA hb hlt _ hsz hdf h0 h5 hK _
  have hip := hI.lay.hip
  have hraw := hI.lay.hraw
  have hx := h (ip - (rl - rpos)) (by omega)
  exact in1 hI hA hb hlt hx (by unfold nx; rw [cw_ok1 hx]) hsz hdf h0 h5 fun a' w' L' BL' h1 h2 h3 h4 => hK a' w' 1 L' BL' (Nat.le_refl _) (by omega) h1 h2 h3 h4
set_option maxHeartbeats 4000000 in
set_option maxRecDepth 100000 in
theorem in0 {k : Kn} {p c u b rl ip : Nat} {eof : Bool} {L0 L RL BL : List Value} {w0 w : World} {a : Act} {K : Act → World → Prop} {Q : Exit → Act → World → Prop} (hI : Inn k p c u b rl rl ip eof L0 L RL BL w0 w) (hsz : a.tmps.size = 690) (hdf : a.defers = []) (h0 : gt a 0 = .pointer (some ⟨p, 0, none⟩)) (h5 : gt a 5 = .int .i64 (b : Nat))
    (hX : ∀ a' w', Fr a a' b → Inn k p c u b rl rl ip eof L0 L RL BL w0 w' → Q (.exit 2) a' w') :
    iBody.wp Tryd.prog (Exit.then K Q) a w := by
  have hl := hI.lay
  obtain ⟨c20, f20⟩ := hl.pb.at 20 hl.at20
  obtain ⟨c21, f21⟩ := hl.pb.at 21 hl.at21
  have hHI := Lib.hid hI
  have HX := Lib.hid hX
  have H5 := Lib.hid h5
  rw [lit690 a hsz hdf, h0]
  clear hI hX hl h5
  conv => arg 2; whnf
  go_wp2_with fail
  go_quiet (fail)
  go_wp2_with fail
  exact HX.out _ _ ⟨rfl, rfl, by rw [h0]; rfl, rfl, H5.out, rfl⟩ (hHI.out.drewN _)
theorem Fr.refl {a : Act} {b : Nat} (hsz : a.tmps.size = 690) (hdf : a.defers = []) (h5 : gt a 5 = .int .i64 (b : Nat)) : Fr a a b := ⟨hsz, hdf, rfl, rfl, h5, rfl⟩
theorem Fr.trans {a a1 a2 : Act} {b b' : Nat} (h : Fr a a1 b) (k : Fr a1 a2 b') : Fr a a2 b' := ⟨k.size, k.defers, k.s0.trans h.s0, k.s1.trans h.s1, k.s5, k.s6.trans h.s6⟩
theorem inner {k : Kn} {p c u b rl rpos ip : Nat} {eof : Bool} {L0 L RL BL : List Value} {w0 w : World} {a : Act} {Q : Exit → Act → World → Prop} (hr : RoundOk k p) (he : eof = true → ip = k.T.length) (hI : Inn k p c u b rl rpos ip eof L0 L RL BL w0 w) (hA : ModeA k.T c u b (rl - rpos) ip) (hb : b + (rl - rpos) ≤ 540)
    (hsz : a.tmps.size = 690) (hdf : a.defers = []) (h0 : gt a 0 = .pointer (some ⟨p, 0, none⟩)) (h5 : gt a 5 = .int .i64 (b : Nat))
    (hX : ∀ a' w' u' b' rpos' L' BL', u ≤ u' → Fr a a' b' → Inn k p c u' b' rl rpos' ip eof L0 L' RL BL' w0 w' → ModeA k.T c u' b' (rl - rpos') ip → b' + (rl - rpos') ≤ 540 → (rl = rpos' ∨ ip < nx k.T (ip - (rl - rpos'))) → Q (.exit 2) a' w') :
    (Code.loop iBody).wp Tryd.prog Q a w := by
  refine wp_loop_ghost_k (fun g a1 w1 => ∃ u1 b1 rpos1 L1 BL1, g = rl - rpos1 ∧ u ≤ u1 ∧ Fr a a1 b1 ∧ Inn k p c u1 b1 rl rpos1 ip eof L0 L1 RL BL1 w0 w1 ∧ ModeA k.T c u1 b1 (rl - rpos1) ip ∧ b1 + (rl - rpos1) ≤ 540) (rl - rpos) ⟨u, b, rpos, L, BL, rfl, Nat.le_refl _, Fr.refl hsz hdf h5, hI, hA, hb⟩ ?_
  rintro g a1 w1 ⟨u1, b1, rpos1, L1, BL1, rfl, hu1, hf1, hI1, hA1, hb1⟩ J K hJ hK
  have hrp := hI1.lay.hrpos
  by_cases hlt : rpos1 < rl
  · refine hr c u1 b1 rl rpos1 ip eof L0 L1 RL BL1 w0 w1 a1 K Q hI1 hA1 hb1 hlt he hf1.size hf1.defers (hf1.s0.trans h0) hf1.s5 ?_ ?_
    · intro a' w' m L' BL' hm hm2 hf hI' hA' hb'
      exact hK _ _ (Handed.intro (rl - (rpos1 + m)) (by omega) (hJ _ _ _ ⟨u1 + 1, b1 + m, rpos1 + m, L', BL', rfl, by omega, hf1.trans hf, hI', hA', hb'⟩))
    · intro a' w' hbrk hf hI'
      exact hX _ _ u1 b1 rpos1 L1 BL1 hu1 (hf1.trans hf) hI' hA1 hb1 (.inr hbrk)
  · obtain rfl : rpos1 = rl := by omega
    refine in0 hI1 hf1.size hf1.defers (hf1.s0.trans h0) hf1.s5 ?_
    intro a' w' hf hI'
    exact hX _ _ u1 b1 rpos1 L1 BL1 hu1 (hf1.trans hf) hI' hA1 hb1 (.inl rfl)
end Go.Proofs.YtocbbekciphjgaaDoor.Pa
