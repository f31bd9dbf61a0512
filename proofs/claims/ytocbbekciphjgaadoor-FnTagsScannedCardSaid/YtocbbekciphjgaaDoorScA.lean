/- A character is passed over (is_blank, is_digit, as_digit, skip): the walks. -/
import Derived.Test.YtocbbekciphjgaaDoorPaJ
import Derived.Test.YtocbbekciphjgaaDoorWd
import Derived.StillTail
import Derived.StillTactics
import Derived.Deep.Cut
import Derived.Deep.CutRange
namespace Go.Proofs.YtocbbekciphjgaaDoor.Sc
open Go.RowKit Go.Proofs.YtocbbekciphjgaaDoor.Rdp Go.Proofs.YtocbbekciphjgaaDoor.Pa
set_option linter.unusedVariables false
set_option linter.unusedSimpArgs false
/-- A cell of a block that is known whole. -/
theorem at_ {w : World} {b : Nat} {t : TypeId} {L : List Value} (h : Bk w b t L) (i : Nat) {v : Value} (hi : L[i]? = some v) : w.cell? ⟨b, i, none⟩ = some v ∧ w.frozen? ⟨b, i, none⟩ = false := by
  obtain ⟨h1, h2⟩ := h.cell i
  exact ⟨h1.trans hi, h2⟩
def isBlank (x : Int) : Bool := x == 32 || x == 9
def isDigit (x : Int) : Bool := decide (48 ≤ x) && decide (x ≤ 57)
set_option maxHeartbeats 1000000 in
theorem blank_any (q i n c : Nat) (x : Int) (w : World) (hi : i < n) (hn : n ≤ 2000) (hx : w.cell? ⟨q, i, none⟩ = some (.int .u8 x)) :
    Calls Tryd.prog 102 #[.slice (some ⟨q, 0, none⟩) n c, .int .i64 i] w fun e w' => e = .returned (.bool (isBlank x)) ∧ w' = w := by
  have h1 : (i : Int) < (n : Int) := by omega
  have h0 : (0 : Int) ≤ (i : Int) := by omega
  have hc : (x == 32) = true ∨ ((x == 32) = false ∧ (x == 9) = true) ∨ ((x == 32) = false ∧ (x == 9) = false) := by cases (x == 32) <;> cases (x == 9) <;> simp
  rcases hc with a | ⟨a, b⟩ | ⟨a, b⟩
  · have r : isBlank x = true := by unfold isBlank; rw [a]; rfl
    rw [r]
    clear r
    go_enter Tryd.func102, Tryd.ntmps102
    go_wp2_with fail
    go_ret
    exact ⟨rfl, rfl⟩
  · have r : isBlank x = true := by unfold isBlank; rw [a, b]; rfl
    rw [r]
    clear r
    go_enter Tryd.func102, Tryd.ntmps102
    go_wp2_with fail
    go_ret
    exact ⟨rfl, rfl⟩
  · have r : isBlank x = false := by unfold isBlank; rw [a, b]; rfl
    rw [r]
    clear r
    go_enter Tryd.func102, Tryd.ntmps102
    go_wp2_with fail
    go_ret
    exact ⟨rfl, rfl⟩
set_option maxHeartbeats 1000000 in
theorem digit_any (q i n c : Nat) (x : Int) (w : World) (hi : i < n) (hn : n ≤ 2000) (hx : w.cell? ⟨q, i, none⟩ = some (.int .u8 x)) :
    Calls Tryd.prog 120 #[.slice (some ⟨q, 0, none⟩) n c, .int .i64 i] w fun e w' => e = .returned (.bool (isDigit x)) ∧ w' = w := by
  have h1 : (i : Int) < (n : Int) := by omega
  have h0 : (0 : Int) ≤ (i : Int) := by omega
  by_cases a : 48 ≤ x
  · have a' : decide (48 ≤ x) = true := by simpa using a
    by_cases b : x ≤ 57
    · have b' : decide (x ≤ 57) = true := by simpa using b
      have r : isDigit x = true := by unfold isDigit; rw [a', b']; rfl
      rw [r]
      clear r
      go_enter Tryd.func120, Tryd.ntmps120
      go_wp2_with fail
      go_ret
      exact ⟨rfl, rfl⟩
    · have b' : decide (x ≤ 57) = false := by simpa using b
      have r : isDigit x = false := by unfold isDigit; rw [a', b']; rfl
      rw [r]
      clear r
      go_enter Tryd.func120, Tryd.ntmps120
      go_wp2_with fail
      go_ret
      exact ⟨rfl, rfl⟩
  · have a' : decide (48 ≤ x) = false := by simpa using a
    have r : isDigit x = false := by unfold isDigit; rw [a']; rfl
    rw [r]
    clear r
    go_enter Tryd.func120, Tryd.ntmps120
    go_wp2_with fail
    go_ret
    exact ⟨rfl, rfl⟩
set_option maxHeartbeats 1000000 in
theorem asdigit_any (q i n c : Nat) (x : Int) (w : World) (hi : i < n) (hn : n ≤ 2000) (h0x : 0 ≤ x) (h1x : x ≤ 255) (hx : w.cell? ⟨q, i, none⟩ = some (.int .u8 x)) :
    Calls Tryd.prog 121 #[.slice (some ⟨q, 0, none⟩) n c, .int .i64 i] w fun e w' => e = .returned (.int .i64 (x - 48)) ∧ w' = w := by
  have h1 : (i : Int) < (n : Int) := by omega
  have h0 : (0 : Int) ≤ (i : Int) := by omega
  go_enter Tryd.func121, Tryd.ntmps121
  go_wp2_with fail
  go_ret
  exact ⟨rfl, rfl⟩
/-- What is left when a character has been passed over. -/
structure Skipped (k : Kn) (p c u bp bl : Nat) (mi mc : Nat) (L : List Value) (w w' : World) : Prop where
  ex : ∃ L', Rdr k p (nx k.T c) u (bp + cw (S k.T c)) bl L' w' ∧ L'[24]? = some (.int .i64 (mi + 1 : Nat)) ∧ L'[26]? = some (.int .i64 (mc + 1 : Nat)) ∧ (∃ z, L'[19]? = some (.int .i64 z)) ∧ (∀ j, j ≠ 17 → j ≠ 18 → j ≠ 19 → j ≠ 24 → j ≠ 26 → L'[j]? = L[j]?)
  kp : Kp [p] w w'
  size : w'.heap.size = w.heap.size
theorem wd_cw {x : Int} (h0 : 0 ≤ x) (h : x < 128 ∨ 194 ≤ x) (h1 : x ≤ 244) : Wd.wd x = (cw x : Nat) := by
  unfold Wd.wd cw
  split
  · rfl
  · split
    · omega
    · split
      · rfl
      · split
        · rfl
        · rw [if_pos (by omega)]; rfl
/-- What a character begins with. -/
theorem first_at {T : List Int} (hG : Rdp.Good T) {c : Nat} (hb : c < T.length → Bd T c) : 0 ≤ S T c ∧ (S T c < 128 ∨ 194 ≤ S T c) ∧ S T c ≤ 244 := by
  by_cases hc : c < T.length
  · have h1 := (hG.chars c (hb hc) hc).1
    unfold okAt Ok1 Ok2 Ok3 Ok4 at h1
    omega
  · rw [S_out (by omega)]; omega
set_option maxHeartbeats 4000000 in
set_option maxRecDepth 100000 in
theorem skip_any (k : Kn) (p c u bp bl mi mc : Nat) (z : Int) (L : List Value) (w : World) (h : Rdr k p c (u + 1) bp bl L w) (h24 : L[24]? = some (.int .i64 (mi : Nat))) (h26 : L[26]? = some (.int .i64 (mc : Nat))) (h19 : L[19]? = some (.int .i64 z)) (hmi : mi ≤ 1000000000000) (hmc : mc ≤ 1000000000000) (hu : u ≤ 1000000) :
    Calls Tryd.prog 103 #[.pointer (some ⟨p, 0, none⟩)] w fun e w' => e = .returned (.tuple #[]) ∧ Skipped k p c u bp bl mi mc L w w' := by
  have hrd := h.ready 1 (by omega)
  have hsm := h.small
  have hpos := cw_pos (S k.T c)
  have hnx : adv k.T c 1 = c + cw (S k.T c) := rfl
  rw [hnx] at hrd
  have hby := h.byte 0 (by omega)
  rw [Nat.add_zero, Nat.add_zero] at hby
  obtain ⟨x0, x1, x2⟩ := first_at h.ok.good h.bd
  have hcw := wd_cw x0 x1 x2
  obtain ⟨c16, f16⟩ := at_ h.pb 16 h.at16
  obtain ⟨c17, f17⟩ := at_ h.pb 17 h.at17
  obtain ⟨c18, f18⟩ := at_ h.pb 18 h.at18
  obtain ⟨c19, f19⟩ := at_ h.pb 19 h19
  obtain ⟨c24, f24⟩ := at_ h.pb 24 h24
  obtain ⟨c26, f26⟩ := at_ h.pb 26 h26
  have H := Lib.hid h
  have hpq : ¬ p = k.q := h.ok.pq
  have hqp : ¬ k.q = p := Ne.symm h.ok.pq
  obtain ⟨x, HX⟩ : ∃ x, Hid (S k.T c = x) := ⟨_, rfl⟩
  obtain ⟨m, HM⟩ : ∃ m, Hid (cw (S k.T c) = m) := ⟨_, rfl⟩
  rw [HM.out] at hcw hrd hpos
  rw [HX.out] at hby x0 x1 x2 hcw
  have HCW := Lib.hid hcw
  have H24 := Lib.hid h24
  have H26 := Lib.hid h26
  have H19 := Lib.hid h19
  have hbl : ∀ N, Calls Tryd.prog 102 #[.slice (some ⟨k.q, 0, none⟩) bl 1536, .int .i64 bp] (w.drewN N) fun e w' => e = .returned (.bool (isBlank x)) ∧ w' = w.drewN N := fun N => blank_any k.q bp bl 1536 x (w.drewN N) (by omega) (by omega) hby
  have HBL := Lib.hid hbl
  have u1 : ((u + 1 : Nat) : Int) = (u : Int) + 1 := by omega
  rw [u1] at c18
  have j1 : (bp : Int) < (bl : Int) := by omega
  have j0 : (0 : Int) ≤ (bp : Int) := by omega
  have j2 : (bl : Int) ≤ 541 := by omega
  clear h hrd hcw h24 h26 h19 hbl u1
  go_enter Tryd.func103, Tryd.ntmps103
  go_wp2_with fail
  go_quiet ((go_at_call 102; exact Calls.quiet_of_same (HBL.out _)))
  clear hnx
  have hsz : Hid (bp + m ≤ bl) := by have := H.out.ready 1 (by omega); rw [show adv k.T c 1 = c + cw (S k.T c) from rfl, HM.out] at this; exact Lib.hid (by omega)
  have hwd : ∀ W, Calls Tryd.prog 131 #[.int .u8 x] W fun e w' => e = .returned (.int .i64 (m : Nat)) ∧ w' = W := fun W => by have := Wd.wd_any x x0 (by omega) W; rw [HCW.out] at this; exact this.mono fun _ _ h => ⟨h.1, h.2.symm⟩
  have HWD := Lib.hid hwd
  clear hwd
  obtain ⟨wa, hwa⟩ : ∃ wa : World, wa = w.drewN nq := ⟨_, rfl⟩
  have HA : Hid (Rdr k p c (u + 1) bp bl L wa) := by rw [hwa]; exact H.out.drewN nq
  have HKA : Hid (Kp [p] w wa ∧ wa.heap.size = w.heap.size) := by rw [hwa]; exact ⟨(Kp.refl _ _).drewN nq, rfl⟩
  rw [← hwa]
  clear hwa c16 c17 c18 c19 c24 c26 f16 f17 f18 f19 f24 f26 hby
  obtain ⟨b, HB⟩ : ∃ b : Bool, Hid (isBlank x = b) := ⟨_, rfl⟩
  rw [HB.out]
  go_upto_if 11 with fail
  go_cut [11] from 2 to 14 (fun _ wx => ∃ L1 z1, Rdr k p c (u + 1) bp bl L1 wx ∧ L1[19]? = some (.int .i64 z1) ∧ (∀ j, j ≠ 19 → L1[j]? = L[j]?) ∧ Kp [p] w wx ∧ wx.heap.size = w.heap.size)
  case first =>
    cases b with
    | true =>
      go_wp2_with fail
      go_meet
      case rel => exact ⟨L, z, HA.out, H19.out, fun _ _ => rfl, HKA.out.1, HKA.out.2⟩
    | false =>
      obtain ⟨c19, f19⟩ := at_ HA.out.pb 19 H19.out
      go_wp2_with fail
      go_meet
      case rel =>
        have hl := HA.out.plen
        exact ⟨L.set 19 (.int .i64 0), 0, HA.out.turn (HA.out.pb.set 19 _) (by simp only [List.length_set]; exact hl) ((Kp.refl _ _).setCell p 19 _ (by simp)) (fun j hj => lset_ne (by omega)), lset_at (by omega), fun j hj => lset_ne hj, HKA.out.1.setCell p 19 _ (by simp), by simp; exact HKA.out.2⟩
  case rest =>
    obtain ⟨L1, z1, hr1, h191, ho1, hk1, hs1⟩ := hcut
    clear HA HKA HBL
    obtain ⟨c16, f16⟩ := at_ hr1.pb 16 hr1.at16
    obtain ⟨c17, f17⟩ := at_ hr1.pb 17 hr1.at17
    obtain ⟨c18, f18⟩ := at_ hr1.pb 18 hr1.at18
    obtain ⟨c24, f24⟩ := at_ hr1.pb 24 ((ho1 24 (by omega)).trans H24.out)
    obtain ⟨c26, f26⟩ := at_ hr1.pb 26 ((ho1 26 (by omega)).trans H26.out)
    have hby := hr1.byte 0 (by have := hsz.out; omega)
    rw [Nat.add_zero, Nat.add_zero, HX.out] at hby
    have u1 : ((u + 1 : Nat) : Int) = (u : Int) + 1 := by omega
    rw [u1] at c18
    have HR1 := Lib.hid hr1
    have H191 := Lib.hid h191
    have HO1 := Lib.hid ho1
    have HK1 := Lib.hid hk1
    have HS1 := Lib.hid hs1
    clear hr1 h191 ho1 hk1 hs1 u1
    go_wp2_with fail
    have hpl := HR1.out.plen
    have hpb5 := ((HR1.out.pb.set 24 (.int .i64 ((mi : Int) + 1))).set 26 (.int .i64 ((mc : Int) + 1))).set 18 (.int .i64 (u : Int))
    have hk5 := (((Kp.refl [p] wc).setCell p 24 (.int .i64 ((mi : Int) + 1)) (by simp)).setCell p 26 (.int .i64 ((mc : Int) + 1)) (by simp)).setCell p 18 (.int .i64 (u : Int)) (by simp)
    have hs5 : (((wc.setCell ⟨p, 24, none⟩ (.int .i64 ((mi : Int) + 1))).setCell ⟨p, 26, none⟩ (.int .i64 ((mc : Int) + 1))).setCell ⟨p, 18, none⟩ (.int .i64 (u : Int))).heap.size = wc.heap.size := by simp
    generalize ((wc.setCell ⟨p, 24, none⟩ (.int .i64 ((mi : Int) + 1))).setCell ⟨p, 26, none⟩ (.int .i64 ((mc : Int) + 1))).setCell ⟨p, 18, none⟩ (.int .i64 (u : Int)) = w5 at *
    have hby5 : w5.cell? ⟨k.q, bp, none⟩ = some (.int .u8 x) := by
      rw [hk5.cell (x := ⟨k.q, bp, none⟩) (World.block_lt_of_cell? wc ⟨k.q, bp, none⟩ hby) (by simp; exact hqp)]
      exact hby
    obtain ⟨d16, e16⟩ := at_ hpb5 16 (by rw [lset_ne (by omega), lset_ne (by omega), lset_ne (by omega)]; exact HR1.out.at16)
    obtain ⟨d17, e17⟩ := at_ hpb5 17 (by rw [lset_ne (by omega), lset_ne (by omega), lset_ne (by omega)]; exact HR1.out.at17)
    have HPB5 := Lib.hid hpb5
    have HK5 := Lib.hid hk5
    have HS5 := Lib.hid hs5
    clear hpb5 hk5 hs5 c16 c17 c18 c24 c26 f16 f17 f18 f24 f26 hby
    refine wp_region_still_tail 18 (by kernel_rfl) (by kernel_rfl) ?_
    simp only [List.take_succ_cons, List.take_zero, List.drop_succ_cons, List.drop_zero]
    iterate 14 still_step
    still_call (HWD.out _)
    repeat still_step
    refine wpStill_nil ?_
    change wpList _ _ _ _ _ w5.drew
    have m1 : (m : Int) ≤ 4 := by omega
    have m0 : (0 : Int) ≤ (m : Int) := by omega
    go_wp2_with fail
    go_end0
    have hz : ∀ w' : World, w'.heap = (w5.setCell ⟨p, 17, none⟩ (.int .i64 ((bp : Int) + (m : Int)))).heap → w'.os = w5.os → w'.tape = w5.tape → w'.output = w5.output → Skipped k p c u bp bl mi mc L w w' := by
      intro w' g1 g2 g3 g4
      have hk6 := HK5.out.setCell p 17 (.int .i64 ((bp : Int) + (m : Int))) (by simp)
      have hk7 : Kp [p] wc w' := ⟨g2.trans hk6.os, g3.trans hk6.tape, g4.trans hk6.output, by rw [g1]; exact hk6.size, fun i h1 h2 => by rw [g1]; exact hk6.block i h1 h2⟩
      have hb6 : Bk w' p 120 ((((L1.set 24 (.int .i64 ((mi : Int) + 1))).set 26 (.int .i64 ((mc : Int) + 1))).set 18 (.int .i64 (u : Int))).set 17 (.int .i64 ((bp : Int) + (m : Int)))) := by unfold Bk; rw [g1]; exact HPB5.out.set 17 (.int .i64 ((bp : Int) + (m : Int)))
      refine ⟨⟨_, HR1.out.step hb6 (by simp only [List.length_set]; exact hpl) hk7 ?_ ?_ ?_, ?_, ?_, ?_, ?_⟩, HK1.out.trans hk7, ?_⟩
      · rw [lset_at (by simp only [List.length_set]; omega), HM.out]; rfl
      · rw [lset_ne (by omega), lset_at (by simp only [List.length_set]; omega)]
      · intro j hj
        rw [lset_ne (by omega), lset_ne (by omega), lset_ne (by omega), lset_ne (by omega)]
      · rw [lset_ne (by omega), lset_ne (by omega), lset_ne (by omega), lset_at (by omega)]; rfl
      · rw [lset_ne (by omega), lset_ne (by omega), lset_at (by simp only [List.length_set]; omega)]; rfl
      · exact ⟨z1, by rw [lset_ne (by omega), lset_ne (by omega), lset_ne (by omega), lset_ne (by omega)]; exact H191.out⟩
      · intro j h1 h2 h3 h4 h5
        rw [lset_ne (by omega), lset_ne (by omega), lset_ne (by omega), lset_ne (by omega)]
        exact HO1.out j h3
      · rw [g1, World.size_setCell, HS5.out]; exact HS1.out
    refine ⟨rfl, hz _ rfl rfl rfl rfl⟩
end Go.Proofs.YtocbbekciphjgaaDoor.Sc
