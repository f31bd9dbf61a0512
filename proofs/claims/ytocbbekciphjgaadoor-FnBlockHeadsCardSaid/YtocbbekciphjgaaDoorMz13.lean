/- PaP: parts of the proof, one behind another. -/
import Derived.Test.YtocbbekciphjgaaDoorMz12
/- PaP -/
/- The buffer is filled (yaml_parser_update_buffer): the walk, where the text has not ended; and for every parser. -/
namespace Go.Proofs.YtocbbekciphjgaaDoor.Pa
open Go.RowKit Go.Proofs.YtocbbekciphjgaaDoor.Rdp
set_option linter.unusedVariables false
set_option linter.unusedSimpArgs false
theorem mk_good {T : List Int} (h : Rdp.Good T) : mk T = (1, 0) := by
  have h0 := h.chars 0 .zero
  have hm := h.mark
  unfold S at hm
  unfold mk
  have h1 : ¬ (2 ≤ T.length ∧ T.getD 0 0 = 255 ∧ T.getD 1 0 = 254) := by
    rintro ⟨a, b, _⟩
    have := (h0 (by omega)).1
    unfold okAt Ok1 Ok2 Ok3 Ok4 S at this
    omega
  have h2 : ¬ (2 ≤ T.length ∧ T.getD 0 0 = 254 ∧ T.getD 1 0 = 255) := by
    rintro ⟨a, b, _⟩
    have := (h0 (by omega)).1
    unfold okAt Ok1 Ok2 Ok3 Ok4 S at this
    omega
  rw [if_neg h1, if_neg h2, if_neg (fun hh => hm hh.2)]
/-- What holds when the encoding is known. -/
def Det (k : Kn) (p c u bp bl : Nat) (L BL : List Value) (w0 w : World) : Prop :=
  ∃ rl rpos ip eof L1 RL, Lay k p c u bp bl rl rpos ip eof L1 RL BL w ∧ ModeA k.T c u (bl - bp) (rl - rpos) ip ∧ (eof = true → ip = k.T.length) ∧ L1[16]? = some (.slice (some ⟨k.q, 0, none⟩) bl 1536) ∧ L1[22]? = some (.int .i64 1) ∧
    (∀ j, rdOff j → L1[j]? = L[j]?) ∧ Kp (k.bs p) w0 w ∧ w.heap.size = w0.heap.size
/-- The encoding has been determined. -/
theorem Lay.told {k : Kn} {p : Nat} {L RL BL : List Value} {w w' : World} (h : Lay k p 0 0 0 0 0 0 0 false L RL BL w) (ok : k.Ok p) (h16 : L[16]? = some (.slice (some ⟨k.q, 0, none⟩) 0 1536)) (ht : Told p k.r k.A k.T k.ci k.E L w w') : Det k p 0 0 0 0 L BL w w' := by
  obtain ⟨L1, RL1, rl, eof, env, raw, old, a22, a23, _, hfin⟩ := ht.ex
  rw [mk_good ok.good] at env a22 a23
  have kp2 : Kp (k.bs p) w w' := ht.kp.mono fun x hx => by unfold Kn.bs; simp at hx ⊢; omega
  refine ⟨rl, 0, rl, eof, L1, RL1, ⟨env.pb, env.plen, env.rb, env.rlen, h.qb.kp ht.kp (by simp; exact ⟨Ne.symm ok.pq, Ne.symm ok.rq⟩), h.qlen, h.qall, env.inp, ht.ev, env.at11, env.at13, env.at14, env.at15, ?_, ?_, env.at20, env.at21, ?_, env.hip, env.hrl, env.hrpos, by omega, by omega, by omega, fun i hi => by omega, fun j hj => ?_⟩, ⟨by omega, ?_, ?_⟩, hfin, ?_, a22, fun j hj => ?_, kp2, ht.size⟩
  · rw [old 17 (by omega) (by omega) (by omega) (by omega) (by omega) (by omega)]; exact h.at17
  · rw [old 18 (by omega) (by omega) (by omega) (by omega) (by omega) (by omega)]; exact h.at18
  · rw [a23, Nat.sub_zero, Nat.sub_self]
  · rw [Nat.zero_add, Nat.sub_zero, Nat.sub_self, Nat.zero_add]; exact raw j (by omega)
  · rw [Nat.sub_zero, Nat.sub_self]; rfl
  · rw [Nat.sub_zero, Nat.sub_self]; exact .zero
  · rw [old 16 (by omega) (by omega) (by omega) (by omega) (by omega) (by omega)]; exact h16
  · unfold rdOff at hj
    exact old j (by omega) (by omega) (by omega) (by omega) (by omega) (by omega)
/-- What holds when the buffer's content lies at its beginning. -/
def PreA (k : Kn) (p c u : Nat) (L : List Value) (w0 : World) (s5 : Value) (w : World) : Prop :=
  ∃ b rl rpos ip eof L1 RL BL l, s5 = .int .i64 (b : Nat) ∧ Lay k p c u 0 b rl rpos ip eof L1 RL BL w ∧ ModeA k.T c u b (rl - rpos) ip ∧ (eof = true → ip = k.T.length) ∧ L1[16]? = some (.slice (some ⟨k.q, 0, none⟩) l 1536) ∧ l ≤ 1536 ∧ L1[22]? = some (.int .i64 1) ∧
    (∀ j, rdOff j → L1[j]? = L[j]?) ∧ Kp (k.bs p) w0 w ∧ w.heap.size = w0.heap.size
theorem outer {k : Kn} {p c u b rl rpos ip n : Nat} {eof : Bool} {L0 L RL BL : List Value} {w0 w : World} {a : Act} {Q : Exit → Act → World → Prop} (hr : RoundOk k p) (hcd : c < k.T.length → Bd k.T c) (he : eof = true → ip = k.T.length) (hI : Inn k p c u b rl rpos ip eof L0 L RL BL w0 w) (hA : ModeA k.T c u b (rl - rpos) ip) (hg : 2 < w0.heap.size)
    (hsz : a.tmps.size = 690) (hdf : a.defers = []) (h0 : gt a 0 = .pointer (some ⟨p, 0, none⟩)) (h1 : gt a 1 = .int .i64 (n : Nat)) (h5 : gt a 5 = .int .i64 (b : Nat)) (h6 : gt a 6 = .bool true) (hn : u < n) (hn8 : n ≤ 8)
    (hXA : ∀ a' w' u' b' rl' rpos' ip' L' RL' BL', Fr a a' b' ∨ True → a'.tmps.size = 690 → a'.defers = [] → gt a' 0 = gt a 0 → gt a' 1 = gt a 1 → gt a' 5 = .int .i64 (b' : Nat) → u ≤ u' → n ≤ u' → Inn k p c u' b' rl' rpos' ip' false L0 L' RL' BL' w0 w' → ModeA k.T c u' b' (rl' - rpos') ip' → Q (.exit 0) a' w')
    (hXB : ∀ a' w', gt a' 0 = gt a 0 → gt a' 1 = gt a 1 → OutB k p c u L0 w0 a' w' → Q (.exit 0) a' w') :
    (Code.loop oBody).wp Tryd.prog Q a w := by
  refine wp_loop_ghost_k (fun g a1 w1 => ∃ u1 b1 rl1 rpos1 ip1 eof1 first1 L1 RL1 BL1, g = 2 * (k.T.length - ip1) + (if first1 then 1 else 0) ∧ a1.tmps.size = 690 ∧ a1.defers = [] ∧ gt a1 0 = gt a 0 ∧ gt a1 1 = gt a 1 ∧ gt a1 5 = .int .i64 (b1 : Nat) ∧ gt a1 6 = .bool first1 ∧ u ≤ u1 ∧
    Inn k p c u1 b1 rl1 rpos1 ip1 eof1 L0 L1 RL1 BL1 w0 w1 ∧ ModeA k.T c u1 b1 (rl1 - rpos1) ip1 ∧ (eof1 = true → ip1 = k.T.length) ∧ (first1 = false → eof1 = false ∧ (rl1 = rpos1 ∨ ip1 < nx k.T (ip1 - (rl1 - rpos1)))) ∧ (first1 = true → u1 < n)) (2 * (k.T.length - ip) + 1)
    ⟨u, b, rl, rpos, ip, eof, true, L, RL, BL, by simp, hsz, hdf, rfl, rfl, h5, h6, Nat.le_refl _, hI, hA, he, (fun h => by cases h), fun _ => hn⟩ ?_
  rintro g a1 w1 ⟨u1, b1, rl1, rpos1, ip1, eof1, first1, L1, RL1, BL1, rfl, z1, z2, g0, g1, g5, g6, hu1, hI1, hA1, he1, hf1, hfn1⟩ J K hJ hK
  by_cases hnu : n ≤ u1
  · have hff : first1 = false := by
      cases first1 with
      | false => rfl
      | true => have := hfn1 rfl; omega
    obtain ⟨rfl, _⟩ := hf1 hff
    refine out_exit hI1 z1 z2 (g0.trans h0) (g1.trans h1) g5 hnu ?_
    intro a' hf
    exact hXA _ _ u1 b1 rl1 rpos1 ip1 L1 RL1 BL1 (.inr trivial) hf.size hf.defers (hf.s0.trans g0) (hf.s1.trans g1) hf.s5 hu1 hnu hI1 hA1
  · refine out_round hr hcd hI1 hA1 he1 hf1 (by rw [hI1.size]; exact hg) z1 z2 (g0.trans h0) (g1.trans h1) g5 g6 (by omega) hn8 ?_ ?_
    · intro a' w' u' b' rl' rpos' ip' L' RL' BL' y1 y2 y3 y4 y5 y6 hu' hI' hA' hend hlt
      refine hK _ _ (Handed.intro (2 * (k.T.length - ip')) hlt (hJ _ _ _ ⟨u', b', rl', rpos', ip', false, false, L', RL', BL', by simp, y1, y2, y3.trans g0, y4.trans g1, y5, y6, by omega, hI', hA', (fun h => by cases h), fun _ => ⟨rfl, hend⟩, fun h => by cases h⟩))
    · intro a' w' y3 y4 hB
      refine hXB _ _ (y3.trans g0) (y4.trans g1) ⟨hB.size, hB.defers, ?_⟩
      obtain ⟨u2, b2, rl2, L2, RL2, BL2, x1, x2, x3⟩ := hB.ex
      exact ⟨u2, b2, rl2, L2, RL2, BL2, x1, by omega, x3⟩
set_option maxHeartbeats 16000000 in
set_option maxRecDepth 100000 in
theorem ub_a (k : Kn) (p c u bp bl n rl rpos ip : Nat) (st : Bool) (L RL BL : List Value) (w : World) (hr : RoundOk k p) (ok : k.Ok p) (hbd : c < k.T.length → Bd k.T c) (hl : Lay k p c u bp bl rl rpos ip false L RL BL w) (h16 : L[16]? = some (.slice (some ⟨k.q, 0, none⟩) bl 1536)) (h22 : L[22]? = some (.int .i64 (if st then 1 else 0)))
    (hm : ModeA k.T c u (bl - bp) (rl - rpos) ip) (hst : st = false → ip = 0 ∧ rl = 0 ∧ rpos = 0 ∧ bl = 0 ∧ bp = 0 ∧ u = 0 ∧ c = 0) (hn : 1 ≤ n) (hn8 : n ≤ 8) (hu : u < n) (hg : 2 < w.heap.size) :
    Calls Tryd.prog 101 #[.pointer (some ⟨p, 0, none⟩), .int .i64 n] w fun e w' => e = .returned (.bool true) ∧ Upd k p c u n L w w' := by
  have HL := Lib.hid hl
  have OK := Lib.hid ok
  have HBD := Lib.hid hbd
  have HM0 := Lib.hid hm
  have HST := Lib.hid hst
  have HR := Lib.hid hr
  obtain ⟨c11, f11⟩ := hl.pb.at 11 hl.at11'
  obtain ⟨c15, f15⟩ := hl.pb.at 15 hl.at15
  obtain ⟨c16, f16⟩ := hl.pb.at 16 h16
  obtain ⟨c17, f17⟩ := hl.pb.at 17 hl.at17
  obtain ⟨c18, f18⟩ := hl.pb.at 18 hl.at18
  obtain ⟨e22, HE22⟩ : ∃ e : Int, Hid ((if st then 1 else 0 : Int) = e) := ⟨_, rfl⟩
  rw [HE22.out] at h22
  obtain ⟨c22, f22⟩ := hl.pb.at 22 h22
  have he22 : (e22 == 0) = !st := by rw [← HE22.out]; cases st <;> rfl
  obtain ⟨nst, HNST⟩ : ∃ b : Bool, Hid ((!st) = b) := ⟨_, rfl⟩
  rw [HNST.out] at he22
  have hbp := hl.hbp
  have hbl := hl.hbl
  have hd : decide ((n : Int) ≤ (u : Int)) = false := by simp; omega
  have hdn : decide (n ≤ u) = false := by simp; omega
  have hnf := eqlNil
  have H16 := Lib.hid h16
  have H22 := Lib.hid h22
  clear hl ok hbd hm hst hr h22 h16
  go_enter Tryd.func101, Tryd.ntmps101
  try simp only [List.append]
  go_wp2_with fail
  go_quiet (fail)
  go_upto_if 47 with fail
  clear c11 c15 c16 c17 c18 c22 f11 f15 f16 f17 f18 f22 he22
  obtain ⟨wa, hwa⟩ : ∃ wa : World, wa = w.drewN nq := ⟨_, rfl⟩
  have HLA : Hid (Lay k p c u bp bl rl rpos ip false L RL BL wa) := by rw [hwa]; exact HL.out.drewN nq
  have HKA : Hid (Kp (k.bs p) w wa ∧ wa.heap.size = w.heap.size) := by rw [hwa]; exact ⟨(Kp.refl _ _).drewN nq, rfl⟩
  rw [← hwa]
  clear hwa
  go_cut [47] from 43 to 50 (fun _ wx => Det k p c u bp bl L BL w wx)
  case first =>
    cases st with
    | true =>
      obtain rfl : false = nst := HNST.out
      go_wp2_with fail
      go_meet
      case rel => exact ⟨rl, rpos, ip, false, L, RL, HLA.out, HM0.out, (fun h => by cases h), H16.out, by rw [H22.out, ← HE22.out]; rfl, fun _ _ => rfl, HKA.out.1, HKA.out.2⟩
    | false =>
      obtain rfl : true = nst := HNST.out
      obtain ⟨rfl, rfl, rfl, rfl, rfl, rfl, rfl⟩ := HST.out rfl
      have hs : Seen p k.r k.A k.T k.ci k.E L L RL 0 false wa wa := ⟨HLA.out.env OK.out, (fun j hj => by omega), (fun _ _ _ _ _ => rfl), Kp.refl _ _, rfl, HLA.out.ev, by rw [H22.out, ← HE22.out]; rfl, HLA.out.at23⟩
      have HS := Lib.hid hs
      clear hs
      go_wp2_with fail
      refine (det_any p k.r k.A k.T k.ci L RL k.E wa OK.out.eof (by rw [HKA.out.2]; exact hg) (OK.out.sub OK.out.two).1 (fun b o e h => (OK.out.sub (OK.out.src b o e h)).1) HS.out).mono ?_
      rintro e w4 ⟨rfl, htold⟩
      have HT := Lib.hid (HLA.out.told OK.out H16.out htold)
      clear htold
      go_wp2_with fail
      go_meet
      case rel =>
        obtain ⟨rl1, rpos1, ip1, eof1, L1, RL1, x1, x2, x3, x4, x5, x6, x7, x8⟩ := HT.out
        exact ⟨rl1, rpos1, ip1, eof1, L1, RL1, x1, x2, x3, x4, x5, x6, HKA.out.1.trans x7, x8.trans HKA.out.2⟩
  case rest =>
    obtain ⟨rl2, rpos2, ip2, eof2, L2, RL2, hl2, hA2, he2, h162, h222, hold2, hkp2, hsz2⟩ := hcut
    clear HLA HKA HL H16 H22 HM0
    obtain ⟨wd, rfl⟩ : ∃ wd : World, wd = wc := ⟨_, rfl⟩
    have HLD := Lib.hid hl2
    have HM := Lib.hid hA2
    have HE2 := Lib.hid he2
    have H16 := Lib.hid h162
    have H22 := Lib.hid h222
    have HOLD := Lib.hid hold2
    have HKP : Hid (Kp (k.bs p) w wd ∧ wd.heap.size = w.heap.size) := ⟨hkp2, hsz2⟩
    clear hl2 hA2 he2 h162 h222 hold2 hkp2 hsz2
    obtain ⟨c15, f15⟩ := HLD.out.pb.at 15 HLD.out.at15
    obtain ⟨c16, f16⟩ := HLD.out.pb.at 16 H16.out
    obtain ⟨c17, f17⟩ := HLD.out.pb.at 17 HLD.out.at17
    obtain ⟨c18, f18⟩ := HLD.out.pb.at 18 HLD.out.at18
    obtain ⟨c20, f20⟩ := HLD.out.pb.at 20 HLD.out.at20
    obtain ⟨c21, f21⟩ := HLD.out.pb.at 21 HLD.out.at21
    obtain ⟨c22, f22⟩ := HLD.out.pb.at 22 H22.out
    go_upto_region 10 with fail
    go_cut [68] from 56 to 68 (fun s68 wx => s68 = .bool (decide (0 < bp) && decide (bp < bl)) ∧ wx = wd)
    case first =>
      by_cases h0 : 0 < bp
      · have h0b : decide ((0 : Int) < (bp : Int)) = true := by simp; omega
        by_cases h1 : bp < bl
        · have h1b : decide ((bp : Int) < (bl : Int)) = true := by simp; omega
          go_wp2_with fail
          go_meet
          case rel => exact ⟨by simp [h0, h1], rfl⟩
        · have h1b : decide ((bp : Int) < (bl : Int)) = false := by simp; omega
          go_wp2_with fail
          go_meet
          case rel => exact ⟨by simp [h1], rfl⟩
      · have h0b : decide ((0 : Int) < (bp : Int)) = false := by simp; omega
        go_wp2_with fail
        go_meet
        case rel => exact ⟨by simp [h0], rfl⟩
    case rest =>
      obtain ⟨rfl, rfl⟩ := hcut
      go_upto_if 68 with fail
      go_cut [5] from 56 to 100 (fun s5 wx => PreA k p c u L w s5 wx)
      case first =>
        by_cases hmv : 0 < bp ∧ bp < bl
        · have hb : (decide (0 < bp) && decide (bp < bl)) = true := by simp; exact hmv
          rw [hb]
          have i1 : (bp : Int) ≤ (bl : Int) := by omega
          have i2 : (bl : Int) ≤ 1536 := by omega
          have i3 : (0 : Int) ≤ (bp : Int) := by omega
          have i4 : ¬ (1536 = bp) := by omega
          obtain ⟨r1, r2, r3, r4⟩ := HLD.out.rest
          have R1 := Lib.hid r1
          have R2 := Lib.hid r2
          have R3 := Lib.hid r3
          have R4 := Lib.hid r4
          have HMV := Lib.hid hmv
          clear r1 r2 r3 r4 hmv
          go_upto_region 11 with fail
          refine wp_region_still_tail 13 (by kernel_rfl) (by kernel_rfl) ?_
          simp only [List.take_succ_cons, List.take_zero, List.drop_succ_cons, List.drop_zero]
          repeat still_step
          refine wpStill_nil ?_
          change wpList _ _ _ _ _ wc.drew
          refine wpList_copy_bk rfl (.tmp 72) (.tmp 81) rfl k.q 0 bl 1536 ⟨k.q, bp, none⟩ (bl - bp) (1536 - bp) rfl rfl BL HLD.out.qb.drew (Pa.rest BL bp bl) (by rw [R1.out]; exact (Nat.min_eq_left (by omega)).symm) R3.out (by have := R1.out; have := HLD.out.qlen; omega) R4.out ?_
          have hmoved := HLD.out.drew.moved OK.out (Pa.rest BL bp bl) R1.out R2.out
          have hpb2 : Bk (wc.drew.setRow k.q (splice BL 0 (Pa.rest BL bp bl)).toArray) p 120 L2 := (setRow_other wc.drew k.q p _ OK.out.pq).trans HLD.out.pb
          have hkp2 : Kp (k.bs p) w ((wc.drew.setRow k.q (splice BL 0 (Pa.rest BL bp bl)).toArray).setCell ⟨p, 17, none⟩ (.int .i64 0)) ∧ ((wc.drew.setRow k.q (splice BL 0 (Pa.rest BL bp bl)).toArray).setCell ⟨p, 17, none⟩ (.int .i64 0)).heap.size = w.heap.size :=
            ⟨(HKP.out.1.drew.setRow k.q _ (k.mq p)).setCell p 17 _ (k.mp p), by have := HKP.out.2; simp [World.setRow]; exact this⟩
          rw [R1.out]
          obtain ⟨d17, e17⟩ := hpb2.at 17 HLD.out.at17
          have HMD := Lib.hid hmoved
          have HK2 := Lib.hid hkp2
          clear hmoved hpb2 hkp2 c15 c16 c17 c18 c20 c21 c22 f15 f16 f17 f18 f20 f21 f22
          generalize wc.drew.setRow k.q (splice BL 0 (Pa.rest BL bp bl)).toArray = w2 at *
          go_wp2_with fail
          go_meet
          case rel =>
            refine ⟨bl - bp, rl2, rpos2, ip2, eof2, _, RL2, _, bl, by congr 1; omega, HMD.out, HM.out, HE2.out, ?_, by omega, ?_, old_set HOLD.out off17, HK2.out.1, HK2.out.2⟩
            · rw [lset_ne (by omega)]; exact H16.out
            · rw [lset_ne (by omega)]; exact H22.out
        · have hb : (decide (0 < bp) && decide (bp < bl)) = false := by simp; omega
          rw [hb]
          by_cases he : bp = bl
          · subst he
            clear hmv
            go_wp2_with fail
            go_meet
            case rel =>
              have hm := HM.out
              rw [Nat.sub_self] at hm
              refine ⟨0, rl2, rpos2, ip2, eof2, _, RL2, _, bp, rfl, HLD.out.empty OK.out rfl, hm, HE2.out, ?_, by omega, ?_, old_set HOLD.out off17, HKP.out.1.setCell p 17 _ (k.mp p), by simp; exact HKP.out.2⟩
              · rw [lset_ne (by omega)]; exact H16.out
              · rw [lset_ne (by omega)]; exact H22.out
          · obtain rfl : bp = 0 := by omega
            have heb : ((0 : Int) == (bl : Int)) = false := by rw [beq_eq_false_iff_ne]; omega
            have d17 : wc.cell? ⟨p, 17, none⟩ = some (.int .i64 0) := c17
            clear he hmv c17
            go_wp2_with fail
            go_meet
            case rel =>
              have hm := HM.out
              rw [Nat.sub_zero] at hm
              exact ⟨bl, rl2, rpos2, ip2, eof2, _, RL2, _, bl, rfl, HLD.out, hm, HE2.out, H16.out, by omega, H22.out, HOLD.out, HKP.out.1, HKP.out.2⟩
      case rest =>
        obtain ⟨b, r1, rp1, ip1, eof1, L1, RL1, BL1, l, rfl, hl1, hm1, he1, h161, hl3, h221, hold, hkp1, hsz1⟩ := hcut
        clear HLD HKP H16 H22 HM HOLD HE2 c15 c16 c17 c18 c20 c21 c22 f15 f16 f17 f18 f20 f21 f22
        obtain ⟨c16, f16⟩ := hl1.pb.at 16 h161
        have hbl1 := hl1.hbl
        have HL1 := Lib.hid hl1
        have HM1 := Lib.hid hm1
        have HE1 := Lib.hid he1
        have HOLD := Lib.hid hold
        have HKP1 := Lib.hid hkp1
        have HSZ1 := Lib.hid hsz1
        have H221 := Lib.hid h221
        clear hl1 hm1 he1 hold hkp1 hsz1 h161 h221
        have i1 : (l : Int) ≤ 1536 := by omega
        have i2 : (0 : Int) ≤ (l : Int) := by omega
        go_wp2_with fail
        refine wp_region_still_tail 13 (by kernel_rfl) (by kernel_rfl) ?_
        simp only [List.take_succ_cons, List.take_zero, List.drop_succ_cons, List.drop_zero]
        repeat still_step
        refine wpStill_nil ?_
        change wpList _ _ _ _ _ wc.drew
        go_wp2_with fail
        have hin : Inn k p c u b r1 rp1 ip1 eof1 L (L1.set 16 (.slice (some ⟨k.q, 0, none⟩) 1536 1536)) RL1 BL1 w (wc.drew.setCell ⟨p, 16, none⟩ (.slice (some ⟨k.q, 0, none⟩) 1536 1536)) :=
          ⟨HL1.out.drew.opened OK.out _, lset_at (by have := HL1.out.plen; omega), by rw [lset_ne (by omega)]; exact H221.out, OK.out, old_set HOLD.out off16, HKP1.out.drew.setCell p 16 _ (k.mp p), by simp; exact HSZ1.out⟩
        refine outer (k := k) (p := p) (c := c) (u := u) (b := b) (n := n) HR.out HBD.out HE1.out hin HM1.out hg rfl rfl rfl rfl rfl rfl hu hn8 ?_ ?_
        · intro a' w' u' b' rl' rpos' ip' L' RL' BL' _ y1 y2 y3 y4 y5 hu' hnu' hI' hA'
          have s0 : gt a' 0 = .pointer (some ⟨p, 0, none⟩) := y3
          have s1 : gt a' 1 = .int .i64 (n : Nat) := y4
          have hbn : n ≤ b' := by have := hA'.at1; have := hA'.at2; have := adv_ge k.T c u'; omega
          have hb541 := hI'.lay.hbl
          have HI' := Lib.hid hI'
          have HA' := Lib.hid hA'
          obtain ⟨c16, f16⟩ := hI'.lay.pb.at 16 hI'.at16
          rw [lit690 a' y1 y2, s0, s1, y5]
          clear hI' hA' hin
          have j1 : decide ((b' : Int) < (n : Int)) = false := by simp; omega
          have j2 : decide (b' < n) = false := by simp; omega
          have j3 : (b' : Int) ≤ 1536 := by omega
          have j4 : (0 : Int) ≤ (b' : Int) := by omega
          go_wp2_with fail
          refine wp_loop_rounds 1 ?_
          rw [rounds_succ]
          go_wp2_with fail
          go_ret
          exact ⟨rfl, HI'.out.lay.shut OK.out HBD.out HI'.out.at22 (.inl ⟨HA'.out, rfl⟩) HI'.out.old HI'.out.kp HI'.out.size (by omega) hu' hbn (.inl hnu')⟩
        · intro a' w' y3 y4 hB
          have s0 : gt a' 0 = .pointer (some ⟨p, 0, none⟩) := y3
          have s1 : gt a' 1 = .int .i64 (n : Nat) := y4
          obtain ⟨u2, b2, r3, L3, RL3, BL3, s5, hu2, hu21, hl5, hm5, h165, h225, hold5, hkp5, hsz5, hb2⟩ := hB.ex
          rw [lit690 a' hB.size hB.defers, s0, s1, s5]
          have HL5 := Lib.hid hl5
          have HKP5 := Lib.hid hkp5
          have HSZ5 := Lib.hid hsz5
          have HM5 := Lib.hid hm5
          have H165 := Lib.hid h165
          have H225 := Lib.hid h225
          have HOLD5 := Lib.hid hold5
          clear hl5 hkp5 hsz5 hm5 h165 h225 hold5 hin hB HL1 HOLD HKP1 HSZ1 HM1 H221 c16 f16
          go_wp2_with fail
          go_loopw [5] (fun s5 wr => ∃ b' BL4, s5 = .int .i64 (b' : Nat) ∧ b2 ≤ b' ∧ (b' = b2 ∨ b' ≤ 8) ∧ Lay k p c u2 0 b' r3 r3 k.T.length true L3 RL3 BL4 wr ∧ ModeB k.T c u2 b' 0 k.T.length true ∧ Kp (k.bs p) w wr ∧ wr.heap.size = w.heap.size) (fun s5 _ => n - (intOf s5).toNat)
          case atStart => exact ⟨b2, _, rfl, Nat.le_refl _, .inl rfl, HL5.out, HM5.out, HKP5.out, HSZ5.out⟩
          obtain ⟨b', BL4, rfl, hb1, hb8, hl6, hm6, hkp6, hsz6⟩ := hrel
          obtain ⟨c16, f16⟩ := hl6.pb.at 16 H165.out
          have hb541 := hl6.hbl
          have HL6 := Lib.hid hl6
          have HM6 := Lib.hid hm6
          have HKP6 := Lib.hid hkp6
          have HSZ6 := Lib.hid hsz6
          clear hm6 hkp6 hsz6 HL5 HM5 HKP5 HSZ5
          by_cases hbn : b' < n
          · obtain ⟨y, hy⟩ := hl6.qall b' (by omega)
            have cq : wr.cell? ⟨k.q, b', none⟩ = some (by8 y) := ((hl6.qb.cell b').1).trans hy
            have fq : wr.frozen? ⟨k.q, b', none⟩ = false := (hl6.qb.cell b').2
            clear hl6 hy
            have e1 : (b' : Int) < 1536 := by omega
            have e2 : (0 : Int) ≤ (b' : Int) := by omega
            go_wp2_with fail
            go_roundw
            case rel => exact ⟨b' + 1, _, by congr 1, by omega, .inr (by omega), HL6.out.nought OK.out (by have := HM6.out.out; omega) (by omega), HM6.out.pad (by omega), HKP6.out.setCell k.q b' _ (k.mq p), by simp; exact HSZ6.out⟩
            case measure => simp [intOf]; omega
          · clear hl6
            have e1 : (b' : Int) ≤ 1536 := by omega
            have e2 : (0 : Int) ≤ (b' : Int) := by omega
            go_wp2_with fail
            go_ret
            exact ⟨rfl, HL6.out.shut OK.out HBD.out H225.out (.inr (by rw [Nat.sub_self]; exact HM6.out)) HOLD5.out HKP6.out HSZ6.out (by omega) (by omega) (by omega) (.inr HM6.out.cov)⟩
theorem ub_any (k : Kn) (p c u bp bl n : Nat) (L : List Value) (w : World) (hr : RoundOk k p) (h : Rdr k p c u bp bl L w) (hn : 1 ≤ n) (hn8 : n ≤ 8) (hg : 2 < w.heap.size) :
    Calls Tryd.prog 101 #[.pointer (some ⟨p, 0, none⟩), .int .i64 n] w fun e w' => e = .returned (.bool true) ∧ Upd k p c u n L w w' := by
  by_cases hu : n ≤ u
  · exact ub_ready k p c u bp bl n L w h hn hu
  obtain ⟨rl, rpos, ip, eof, RL, BL, st, hl, h22, ⟨hA, rfl, hs⟩ | ⟨hB, rfl⟩⟩ := h.ex
  · exact ub_a k p c u bp bl n rl rpos ip st L RL BL w hr h.ok h.bd hl h.at16 h22 hA hs hn hn8 (by omega) hg
  · obtain rfl := hB.eof
    obtain rfl := hB.all
    obtain rfl : rl = rpos := by have := hB.none; have := hl.hrpos; omega
    rw [Nat.sub_self] at hB
    exact ub_b k p c u bp bl n rl L RL BL w h.ok h.bd hl h.at16 h22 hB hn hn8 (by omega)
end Go.Proofs.YtocbbekciphjgaaDoor.Pa
