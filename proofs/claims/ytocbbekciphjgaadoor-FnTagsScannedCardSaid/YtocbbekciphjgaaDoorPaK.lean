/- The buffer is filled behind the text's end, or where enough lies ready (yaml_parser_update_buffer): the walks. -/
import Derived.Test.YtocbbekciphjgaaDoorPaJ
import Derived.StillTail
import Derived.StillTactics
import Derived.Deep.Cut
import Derived.Deep.CutRange
import Derived.Deep.LoopGhost
import Derived.LoopN
import Derived.WalkMore
import Derived.Outline
namespace Go.Proofs.YtocbbekciphjgaaDoor.Pa
open Go.RowKit Go.Proofs.YtocbbekciphjgaaDoor.Rdp
set_option linter.unusedVariables false
set_option linter.unusedSimpArgs false
theorem eqlNil (w : World) : (binOp .eql 105 (.func (.func 129) #[] #[]) .nilFunc).run Tryd.prog w = .ok (.bool false) w := by kernel_rfl
theorem Bk.at {w : World} {b : Nat} {t : TypeId} {L : List Value} (h : Bk w b t L) (i : Nat) {v : Value} (hi : L[i]? = some v) : w.cell? ⟨b, i, none⟩ = some v ∧ w.frozen? ⟨b, i, none⟩ = false := by
  obtain ⟨h1, h2⟩ := h.cell i
  exact ⟨h1.trans hi, h2⟩
theorem Lay.drew {k : Kn} {p c u bp bl rl rpos ip : Nat} {eof : Bool} {L RL BL : List Value} {w : World} (h : Lay k p c u bp bl rl rpos ip eof L RL BL w) : Lay k p c u bp bl rl rpos ip eof L RL BL w.drew :=
  ⟨h.pb, h.plen, h.rb, h.rlen, h.qb, h.qlen, h.qall, h.inp, h.ev, h.at11, h.at13, h.at14, h.at15, h.at17, h.at18, h.at20, h.at21, h.at23, h.hip, h.hrl, h.hrpos, h.hraw, h.hbp, h.hbl, h.buf, h.raw⟩
/-- What lies ready, as a list. -/
def rest (BL : List Value) (bp bl : Nat) : List Value := (BL.drop bp).take (bl - bp)
theorem addr_add (b o j : Nat) : (⟨b, o, none⟩ : Addr).add j = ⟨b, o + j, none⟩ := by
  unfold Addr.add
  split
  · rename_i h; subst h; rfl
  · rfl
theorem Lay.rest {k : Kn} {p c u bp bl rl rpos ip : Nat} {eof : Bool} {L RL BL : List Value} {w : World} (h : Lay k p c u bp bl rl rpos ip eof L RL BL w) :
    (Pa.rest BL bp bl).length = bl - bp ∧ (∀ i, i < bl - bp → (Pa.rest BL bp bl)[i]? = BL[bp + i]?) ∧ (∀ j v, (Pa.rest BL bp bl)[j]? = some v → w.cell? ((⟨k.q, bp, none⟩ : Addr).add j) = some v) ∧ (∀ v ∈ Pa.rest BL bp bl, v.oneCell' = true) := by
  have hq := h.qlen
  have hl := h.hbl
  have hb := h.hbp
  have e : ∀ i, i < bl - bp → (Pa.rest BL bp bl)[i]? = BL[bp + i]? := fun i hi => by unfold Pa.rest; rw [List.getElem?_take_of_lt hi, List.getElem?_drop]
  have hlen : (Pa.rest BL bp bl).length = bl - bp := by unfold Pa.rest; simp; omega
  refine ⟨hlen, e, fun j v hj => ?_, fun v hv => ?_⟩
  · have hjl : j < bl - bp := by rw [← hlen]; exact (List.getElem?_eq_some_iff.1 hj).1
    rw [addr_add, (h.qb.cell (bp + j)).1, ← e j hjl]
    exact hj
  · obtain ⟨i, hi⟩ := List.getElem?_of_mem hv
    have hil : i < bl - bp := by rw [← hlen]; exact (List.getElem?_eq_some_iff.1 hi).1
    obtain ⟨x, hx⟩ := h.qall (bp + i) (by omega)
    rw [e i hil, hx] at hi
    simp only [Option.some.injEq] at hi
    subst hi
    rfl
theorem Lay.at11' {k : Kn} {p c u bp bl rl rpos ip : Nat} {eof : Bool} {L RL BL : List Value} {w : World} (h : Lay k p c u bp bl rl rpos ip eof L RL BL w) : L[11]? = some (.func (.func 129) #[] #[]) := h.at11
set_option maxHeartbeats 4000000 in
set_option maxRecDepth 100000 in
theorem ub_ready (k : Kn) (p c u bp bl n : Nat) (L : List Value) (w : World) (h : Rdr k p c u bp bl L w) (hn : 1 ≤ n) (hu : n ≤ u) :
    Calls Tryd.prog 101 #[.pointer (some ⟨p, 0, none⟩), .int .i64 n] w fun e w' => e = .returned (.bool true) ∧ Upd k p c u n L w w' := by
  have H := Lib.hid h
  obtain ⟨rl, rpos, ip, eof, RL, BL, st, hl, _, hm⟩ := h.ex
  obtain ⟨c11, f11⟩ := hl.pb.at 11 hl.at11'
  obtain ⟨c15, f15⟩ := hl.pb.at 15 hl.at15
  obtain ⟨c16, f16⟩ := hl.pb.at 16 h.at16
  obtain ⟨c18, f18⟩ := hl.pb.at 18 hl.at18
  obtain ⟨c20, f20⟩ := hl.pb.at 20 hl.at20
  obtain ⟨c21, f21⟩ := hl.pb.at 21 hl.at21
  have hd : decide ((n : Int) ≤ (u : Int)) = true := by simp; omega
  have hnf := eqlNil
  rcases hm with ⟨hA, rfl, _⟩ | ⟨hB, _⟩
  · clear hl h hA
    go_enter Tryd.func101, Tryd.ntmps101
    try simp only [List.append]
    go_wp2_with fail
    go_quiet (fail)
    go_wp2_with fail
    go_ret
    exact ⟨rfl, upd_same H.out hn hu _⟩
  · obtain rfl := hB.eof
    obtain rfl : rl = rpos := by have := hB.none; have := hl.hrpos; omega
    clear hl h hB
    go_enter Tryd.func101, Tryd.ntmps101
    try simp only [List.append]
    go_wp2_with fail
    go_quiet (fail)
    go_wp2_with fail
    go_ret
    exact ⟨rfl, upd_same H.out hn hu _⟩
/-- What holds when the buffer's content lies at its beginning, behind the text's end. -/
def PreB (k : Kn) (p c u : Nat) (L : List Value) (w0 : World) (s5 : Value) (w : World) : Prop :=
  ∃ b rl L1 RL BL l, s5 = .int .i64 (b : Nat) ∧ Lay k p c u 0 b rl rl k.T.length true L1 RL BL w ∧ ModeB k.T c u b 0 k.T.length true ∧ L1[16]? = some (.slice (some ⟨k.q, 0, none⟩) l 1536) ∧ l ≤ 1536 ∧ L1[22]? = some (.int .i64 1) ∧
    (∀ j, rdOff j → L1[j]? = L[j]?) ∧ Kp (k.bs p) w0 w ∧ w.heap.size = w0.heap.size
theorem old_set {L L0 : List Value} {i : Nat} {v : Value} (h : ∀ j, rdOff j → L[j]? = L0[j]?) (hi : ¬ rdOff i) : ∀ j, rdOff j → (L.set i v)[j]? = L0[j]? := fun j hj => by
  rw [lset_ne (by rintro rfl; exact hi hj)]
  exact h j hj
theorem Lay.env {k : Kn} {p c u bp bl rl rpos ip : Nat} {eof : Bool} {L RL BL : List Value} {w : World} (h : Lay k p c u bp bl rl rpos ip eof L RL BL w) (ok : k.Ok p) : Env p k.r k.A k.T k.ci L RL rl rpos ip eof w :=
  ⟨h.pb, h.plen, h.rb, h.rlen, h.inp, ok.tlen, ok.tcap, h.at11, h.at13, h.at14, h.at15, h.at20, h.at21, h.hip, h.hrl, h.hrpos, ok.pr, fun j h1 h2 => by
    have := h.raw (j - rpos) (by omega)
    rw [show rpos + (j - rpos) = j by omega] at this
    exact ⟨_, this⟩⟩
theorem Lay.opened {k : Kn} {p c u bp bl rl rpos ip : Nat} {eof : Bool} {L RL BL : List Value} {w : World} (h : Lay k p c u bp bl rl rpos ip eof L RL BL w) (ok : k.Ok p) (v : Value) : Lay k p c u bp bl rl rpos ip eof (L.set 16 v) RL BL (w.setCell ⟨p, 16, none⟩ v) :=
  h.cells ok (h.pb.set 16 _) (by simp only [List.length_set]; exact h.plen) ((Kp.refl _ _).setCell p 16 _ (by simp)) (fun j hj => by unfold rdOwn at hj; exact lset_ne (by omega))
theorem ModeB.one {T : List Int} {c u n ip : Nat} {eof : Bool} (h : ModeB T c u n 0 ip eof) (hG : Rdp.Good T) (hbd : c < T.length → Bd T c) : ModeB T c (u + 1) (n + 1) 0 ip eof := by
  have h1 := h.out
  have h2 := h.lo
  have h3 := h.hi
  have hx := nx_lt T (adv T c u)
  have e : adv T c (u + 1) = nx T (adv T c u) := rfl
  have h4 := h.cov
  refine ⟨h.eof, h.none, h.all, by omega, ?_, by omega, by rw [e]; omega⟩
  rw [e]
  by_cases hlt : adv T c u < T.length
  · have hc : c < T.length := by have := (adv_le T c u).1; omega
    have := (hG.chars _ ((hbd hc).adv u (by omega)) hlt).2
    omega
  · rw [nx_out (by omega)]
    omega
theorem ModeB.pad {T : List Int} {c u n ip : Nat} {eof : Bool} (h : ModeB T c u n 0 ip eof) (hn : n + 1 ≤ 8) : ModeB T c u (n + 1) 0 ip eof := by
  have h1 := h.out
  have h2 := h.lo
  have h3 := (adv_le T c u).1
  exact ⟨h.eof, h.none, h.all, by omega, by omega, by omega, h.cov⟩
theorem off16 : ¬ rdOff 16 := by unfold rdOff; omega
theorem off17 : ¬ rdOff 17 := by unfold rdOff; omega
theorem off18 : ¬ rdOff 18 := by unfold rdOff; omega
theorem off22 : ¬ rdOff 22 := by unfold rdOff; omega
set_option maxHeartbeats 8000000 in
set_option maxRecDepth 100000 in
theorem ub_b (k : Kn) (p c u bp bl n rl : Nat) (L RL BL : List Value) (w : World) (ok : k.Ok p) (hbd : c < k.T.length → Bd k.T c) (hl : Lay k p c u bp bl rl rl k.T.length true L RL BL w) (h16 : L[16]? = some (.slice (some ⟨k.q, 0, none⟩) bl 1536)) (h22 : L[22]? = some (.int .i64 1))
    (hm : ModeB k.T c u (bl - bp) 0 k.T.length true) (hn : 1 ≤ n) (hn8 : n ≤ 8) (hu : u < n) :
    Calls Tryd.prog 101 #[.pointer (some ⟨p, 0, none⟩), .int .i64 n] w fun e w' => e = .returned (.bool true) ∧ Upd k p c u n L w w' := by
  have HL := Lib.hid hl
  have OK := Lib.hid ok
  have HBD := Lib.hid hbd
  have HM := Lib.hid hm
  have H22 := Lib.hid h22
  obtain ⟨c11, f11⟩ := hl.pb.at 11 hl.at11'
  obtain ⟨c15, f15⟩ := hl.pb.at 15 hl.at15
  obtain ⟨c16, f16⟩ := hl.pb.at 16 h16
  obtain ⟨c17, f17⟩ := hl.pb.at 17 hl.at17
  obtain ⟨c18, f18⟩ := hl.pb.at 18 hl.at18
  obtain ⟨c20, f20⟩ := hl.pb.at 20 hl.at20
  obtain ⟨c21, f21⟩ := hl.pb.at 21 hl.at21
  obtain ⟨c22, f22⟩ := hl.pb.at 22 h22
  have hbp := hl.hbp
  have hbl := hl.hbl
  have hd : decide ((n : Int) ≤ (u : Int)) = false := by simp; omega
  have hdn : decide (n ≤ u) = false := by simp; omega
  have hnf := eqlNil
  have H16 := Lib.hid h16
  clear hl ok hbd hm h22 h16
  go_enter Tryd.func101, Tryd.ntmps101
  try simp only [List.append]
  go_wp2_with fail
  go_quiet (fail)
  clear c11 c15 c16 c17 c18 c20 c21 c22 f11 f15 f16 f17 f18 f20 f21 f22
  obtain ⟨wd, hwd⟩ : ∃ wd : World, wd = w.drewN nq := ⟨_, rfl⟩
  have HLD : Hid (Lay k p c u bp bl rl rl k.T.length true L RL BL wd) := by rw [hwd]; exact HL.out.drewN nq
  have HKP : Hid (Kp (k.bs p) w wd ∧ wd.heap.size = w.heap.size) := by rw [hwd]; exact ⟨(Kp.refl _ _).drewN nq, rfl⟩
  rw [← hwd]
  clear hwd
  obtain ⟨c15, f15⟩ := HLD.out.pb.at 15 HLD.out.at15
  obtain ⟨c16, f16⟩ := HLD.out.pb.at 16 H16.out
  obtain ⟨c17, f17⟩ := HLD.out.pb.at 17 HLD.out.at17
  obtain ⟨c18, f18⟩ := HLD.out.pb.at 18 HLD.out.at18
  obtain ⟨c20, f20⟩ := HLD.out.pb.at 20 HLD.out.at20
  obtain ⟨c21, f21⟩ := HLD.out.pb.at 21 HLD.out.at21
  obtain ⟨c22, f22⟩ := HLD.out.pb.at 22 H22.out
  go_upto_region 10 with fail
  go_cut [68] from 56 to 68 (fun s68 wx => s68 = .bool (decide (0 < bp) && decide (bp < bl)) ∧ wx = wd)
  case first =>
    by_cases h0 : 0 < bp
    · have h0b : decide ((0 : Int) < (bp : Int)) = true := by simp; omega
      by_cases h1 : bp < bl
      · have h1b : decide ((bp : Int) < (bl : Int)) = true := by simp; omega
        go_wp2_with fail
        go_meet
        case rel => exact ⟨by simp [h0, h1], rfl⟩
      · have h1b : decide ((bp : Int) < (bl : Int)) = false := by simp; omega
        go_wp2_with fail
        go_meet
        case rel => exact ⟨by simp [h1], rfl⟩
    · have h0b : decide ((0 : Int) < (bp : Int)) = false := by simp; omega
      go_wp2_with fail
      go_meet
      case rel => exact ⟨by simp [h0], rfl⟩
  case rest =>
    obtain ⟨rfl, rfl⟩ := hcut
    go_upto_if 68 with fail
    go_cut [5] from 56 to 100 (fun s5 wx => PreB k p c u L w s5 wx)
    case first =>
      by_cases hmv : 0 < bp ∧ bp < bl
      · have hb : (decide (0 < bp) && decide (bp < bl)) = true := by simp; exact hmv
        rw [hb]
        have i1 : (bp : Int) ≤ (bl : Int) := by omega
        have i2 : (bl : Int) ≤ 1536 := by omega
        have i3 : (0 : Int) ≤ (bp : Int) := by omega
        have i4 : ¬ (1536 = bp) := by omega
        obtain ⟨r1, r2, r3, r4⟩ := HLD.out.rest
        have R1 := Lib.hid r1
        have R2 := Lib.hid r2
        have R3 := Lib.hid r3
        have R4 := Lib.hid r4
        have HMV := Lib.hid hmv
        clear r1 r2 r3 r4 hmv
        go_upto_region 11 with fail
        refine wp_region_still_tail 13 (by kernel_rfl) (by kernel_rfl) ?_
        simp only [List.take_succ_cons, List.take_zero, List.drop_succ_cons, List.drop_zero]
        repeat still_step
        refine wpStill_nil ?_
        change wpList _ _ _ _ _ wc.drew
        refine wpList_copy_bk rfl (.tmp 72) (.tmp 81) rfl k.q 0 bl 1536 ⟨k.q, bp, none⟩ (bl - bp) (1536 - bp) rfl rfl BL HLD.out.qb.drew (Pa.rest BL bp bl) (by rw [R1.out]; exact (Nat.min_eq_left (by omega)).symm) R3.out (by have := R1.out; have := HLD.out.qlen; omega) R4.out ?_
        have hmoved := HLD.out.drew.moved OK.out (Pa.rest BL bp bl) R1.out R2.out
        have hpb2 : Bk (wc.drew.setRow k.q (splice BL 0 (Pa.rest BL bp bl)).toArray) p 120 L := (setRow_other wc.drew k.q p _ OK.out.pq).trans HLD.out.pb
        have hkp2 : Kp (k.bs p) w ((wc.drew.setRow k.q (splice BL 0 (Pa.rest BL bp bl)).toArray).setCell ⟨p, 17, none⟩ (.int .i64 0)) ∧ ((wc.drew.setRow k.q (splice BL 0 (Pa.rest BL bp bl)).toArray).setCell ⟨p, 17, none⟩ (.int .i64 0)).heap.size = w.heap.size :=
          ⟨(HKP.out.1.drew.setRow k.q _ (k.mq p)).setCell p 17 _ (k.mp p), by have := HKP.out.2; simp [World.setRow]; exact this⟩
        rw [R1.out]
        obtain ⟨d17, e17⟩ := hpb2.at 17 HLD.out.at17
        have HMD := Lib.hid hmoved
        have HK2 := Lib.hid hkp2
        clear hmoved hpb2 hkp2 c15 c16 c17 c18 c20 c21 c22 f15 f16 f17 f18 f20 f21 f22
        generalize wc.drew.setRow k.q (splice BL 0 (Pa.rest BL bp bl)).toArray = w2 at *
        go_wp2_with fail
        go_meet
        case rel =>
          refine ⟨bl - bp, rl, _, RL, _, bl, by congr 1; omega, HMD.out, HM.out, ?_, by omega, ?_, old_set (fun _ _ => rfl) off17, HK2.out.1, HK2.out.2⟩
          · rw [lset_ne (by omega)]; exact H16.out
          · rw [lset_ne (by omega)]; exact H22.out
      · have hb : (decide (0 < bp) && decide (bp < bl)) = false := by simp; omega
        rw [hb]
        by_cases he : bp = bl
        · subst he
          clear hmv
          go_wp2_with fail
          go_meet
          case rel =>
            have hm := HM.out
            rw [Nat.sub_self] at hm
            refine ⟨0, rl, _, RL, _, bp, rfl, HLD.out.empty OK.out rfl, hm, ?_, by omega, ?_, old_set (fun _ _ => rfl) off17, HKP.out.1.setCell p 17 _ (k.mp p), by simp; exact HKP.out.2⟩
            · rw [lset_ne (by omega)]; exact H16.out
            · rw [lset_ne (by omega)]; exact H22.out
        · obtain rfl : bp = 0 := by omega
          have heb : ((0 : Int) == (bl : Int)) = false := by rw [beq_eq_false_iff_ne]; omega
          have d17 : wc.cell? ⟨p, 17, none⟩ = some (.int .i64 0) := c17
          clear he hmv c17
          go_wp2_with fail
          go_meet
          case rel =>
            have hm := HM.out
            rw [Nat.sub_zero] at hm
            exact ⟨bl, rl, _, RL, _, bl, rfl, HLD.out, hm, H16.out, by omega, H22.out, fun _ _ => rfl, HKP.out.1, HKP.out.2⟩
    case rest =>
      obtain ⟨b, r1, L1, RL1, BL1, l, rfl, hl1, hm1, h161, hl2, h221, hold, hkp1, hsz1⟩ := hcut
      clear HLD HKP HL H16 H22 HM c15 c16 c17 c18 c20 c21 c22 f15 f16 f17 f18 f20 f21 f22
      obtain ⟨c16, f16⟩ := hl1.pb.at 16 h161
      have hbl1 := hl1.hbl
      have HL1 := Lib.hid hl1
      have HM1 := Lib.hid hm1
      have HOLD := Lib.hid hold
      have HKP1 := Lib.hid hkp1
      have HSZ1 := Lib.hid hsz1
      have H221 := Lib.hid h221
      clear hl1 hm1 hold hkp1 hsz1 h161 h221
      have i1 : (l : Int) ≤ 1536 := by omega
      have i2 : (0 : Int) ≤ (l : Int) := by omega
      go_wp2_with fail
      refine wp_region_still_tail 13 (by kernel_rfl) (by kernel_rfl) ?_
      simp only [List.take_succ_cons, List.take_zero, List.drop_succ_cons, List.drop_zero]
      repeat still_step
      refine wpStill_nil ?_
      change wpList _ _ _ _ _ wc.drew
      go_wp2_with fail
      have hopen : Hid (∃ L2 w2, Lay k p c u 0 b r1 r1 k.T.length true L2 RL1 BL1 w2 ∧ True) := ⟨_, _, HL1.out, trivial⟩
      clear hopen
      refine wp_loop_rounds 1 ?_
      rw [rounds_succ]
      have hl3 := HL1.out.drew.opened OK.out (.slice (some ⟨k.q, 0, none⟩) 1536 1536)
      have hkp3 := HKP1.out.drew.setCell p 16 (.slice (some ⟨k.q, 0, none⟩) 1536 1536) (k.mp p)
      have hsz3 : (wc.drew.setCell ⟨p, 16, none⟩ (.slice (some ⟨k.q, 0, none⟩) 1536 1536)).heap.size = w.heap.size := by simp; exact HSZ1.out
      have h163 : (L1.set 16 (.slice (some ⟨k.q, 0, none⟩) 1536 1536))[16]? = some (.slice (some ⟨k.q, 0, none⟩) 1536 1536) := lset_at (by have := HL1.out.plen; omega)
      have h223 : (L1.set 16 (.slice (some ⟨k.q, 0, none⟩) 1536 1536))[22]? = some (.int .i64 1) := by rw [lset_ne (by omega)]; exact H221.out
      have hold3 := old_set (v := .slice (some ⟨k.q, 0, none⟩) 1536 1536) HOLD.out off16
      generalize hw3 : wc.drew.setCell ⟨p, 16, none⟩ (.slice (some ⟨k.q, 0, none⟩) 1536 1536) = w3 at hl3 hkp3 hsz3
      have hw3' : (wc.setCell ⟨p, 16, none⟩ (.slice (some ⟨k.q, 0, none⟩) 1536 1536)).drew = w3 := hw3
      first | rw [hw3] | rw [hw3']
      clear hw3 hw3'
      generalize L1.set 16 (.slice (some ⟨k.q, 0, none⟩) 1536 1536) = L2 at *
      clear HL1 HOLD HKP1 HSZ1 H221 c16 f16
      obtain ⟨c15, f15⟩ := hl3.pb.at 15 hl3.at15
      obtain ⟨c16, f16⟩ := hl3.pb.at 16 h163
      obtain ⟨c18, f18⟩ := hl3.pb.at 18 hl3.at18
      obtain ⟨c20, f20⟩ := hl3.pb.at 20 hl3.at20
      obtain ⟨c21, f21⟩ := hl3.pb.at 21 hl3.at21
      have hus := ur_stop p k.r k.A k.T k.ci L2 RL1 r1 r1 k.T.length true
      have hlt : decide ((u : Int) < (n : Int)) = true := by simp; omega
      have hltn : decide (u < n) = true := by simp; omega
      have HL2 := Lib.hid hl3
      have H162 := Lib.hid h163
      have H222 := Lib.hid h223
      have HOLD2 := Lib.hid hold3
      have HKP2 := Lib.hid hkp3
      have HSZ2 := Lib.hid hsz3
      have HUS := Lib.hid hus
      clear hl3 h163 h223 hold3 hkp3 hsz3 hus
      go_wp2_with fail
      go_step3
      go_wp2_with fail
      go_quiet (fail)
      go_wp2_with fail
      refine (HUS.out _ ((HL2.out.drewN _).env OK.out) (by simp)).mono ?_
      rintro e w4 ⟨rfl, kd, hw4⟩
      have hl4 : Lay k p c u 0 b r1 r1 k.T.length true L2 RL1 BL1 w4 := by rw [hw4]; exact (HL2.out.drewN _).drewN kd
      have hkp4 : Kp (k.bs p) w w4 := by rw [hw4]; exact (HKP2.out.drewN _).drewN kd
      have hsz4 : w4.heap.size = w.heap.size := by rw [hw4]; exact HSZ2.out
      clear hw4
      clear HL2 HKP2 HSZ2 c15 c16 c18 c20 c21 f15 f16 f18 f20 f21 HUS
      obtain ⟨c15, f15⟩ := hl4.pb.at 15 hl4.at15
      obtain ⟨c16, f16⟩ := hl4.pb.at 16 H162.out
      obtain ⟨c18, f18⟩ := hl4.pb.at 18 hl4.at18
      obtain ⟨c20, f20⟩ := hl4.pb.at 20 hl4.at20
      obtain ⟨c21, f21⟩ := hl4.pb.at 21 hl4.at21
      obtain ⟨y, hy⟩ := hl4.qall b (by omega)
      have cq : w4.cell? ⟨k.q, b, none⟩ = some (by8 y) := ((hl4.qb.cell b).1).trans hy
      have fq : w4.frozen? ⟨k.q, b, none⟩ = false := (hl4.qb.cell b).2
      have HL4 := Lib.hid hl4
      have HKP4 := Lib.hid hkp4
      have HSZ4 := Lib.hid hsz4
      clear hl4 hkp4 hsz4 hy
      go_wp2_with fail
      go_step3
      go_wp2_with fail
      refine wp_loop_rounds 1 ?_
      rw [rounds_succ]
      have b1 : (b : Int) < 1536 := by omega
      have hpq : ¬ p = k.q := OK.out.pq
      have hqp : ¬ k.q = p := Ne.symm OK.out.pq
      have b2 : (0 : Int) ≤ (b : Int) := by omega
      go_wp2_with fail
      go_quiet (fail)
      go_wp2_with fail
      rw [Exit.noGoto_exit]
      go_wp2_with fail
      have hl5 := ((HL4.out.drewN nq).nought OK.out (by have := HM1.out.out; omega) (by have := HM1.out.hi; have := adv_four k.T c u; omega)).count (u' := u + 1) OK.out (v := (u : Int) + 1) (by omega)
      have hkp5 := ((HKP4.out.drewN nq).setCell k.q b (.int .u8 0) (k.mq p)).setCell p 18 (.int .i64 ((u : Int) + 1)) (k.mp p)
      have hsz5 : (((w4.drewN nq).setCell ⟨k.q, b, none⟩ (.int .u8 0)).setCell ⟨p, 18, none⟩ (.int .i64 ((u : Int) + 1))).heap.size = w.heap.size := by simp; exact HSZ4.out
      have hm5 := HM1.out.one OK.out.good HBD.out
      have h165 : (L2.set 18 (.int .i64 ((u : Int) + 1)))[16]? = some (.slice (some ⟨k.q, 0, none⟩) 1536 1536) := by rw [lset_ne (by omega)]; exact H162.out
      have h225 : (L2.set 18 (.int .i64 ((u : Int) + 1)))[22]? = some (.int .i64 1) := by rw [lset_ne (by omega)]; exact H222.out
      have hold5 := old_set (v := .int .i64 ((u : Int) + 1)) HOLD2.out off18
      generalize L2.set 18 (.int .i64 ((u : Int) + 1)) = L3 at *
      generalize ((w4.drewN nq).setCell ⟨k.q, b, none⟩ (.int .u8 0)).setCell ⟨p, 18, none⟩ (.int .i64 ((u : Int) + 1)) = w5 at *
      have HL5 := Lib.hid hl5
      have HKP5 := Lib.hid hkp5
      have HSZ5 := Lib.hid hsz5
      have HM5 := Lib.hid hm5
      have H165 := Lib.hid h165
      have H225 := Lib.hid h225
      have HOLD5 := Lib.hid hold5
      clear hl5 hkp5 hsz5 hm5 h165 h225 hold5 HL4 HKP4 HSZ4 HM1 H162 H222 HOLD2 c15 c16 c18 c20 c21 f15 f16 f18 f20 f21 cq fq
      go_loopw [5] (fun s5 wr => ∃ b' BL3, s5 = .int .i64 (b' : Nat) ∧ b + 1 ≤ b' ∧ (b' = b + 1 ∨ b' ≤ 8) ∧ Lay k p c (u + 1) 0 b' r1 r1 k.T.length true L3 RL1 BL3 wr ∧ ModeB k.T c (u + 1) b' 0 k.T.length true ∧ Kp (k.bs p) w wr ∧ wr.heap.size = w.heap.size) (fun s5 _ => n - (intOf s5).toNat)
      case atStart => exact ⟨b + 1, _, by congr 1, Nat.le_refl _, .inl rfl, HL5.out, HM5.out, HKP5.out, HSZ5.out⟩
      obtain ⟨b', BL3, rfl, hb1, hb8, hl6, hm6, hkp6, hsz6⟩ := hrel
      obtain ⟨c16, f16⟩ := hl6.pb.at 16 H165.out
      have hb541 := hl6.hbl
      have HL6 := Lib.hid hl6
      have HM6 := Lib.hid hm6
      have HKP6 := Lib.hid hkp6
      have HSZ6 := Lib.hid hsz6
      clear hm6 hkp6 hsz6 HL5 HM5 HKP5 HSZ5
      by_cases hbn : b' < n
      · obtain ⟨y, hy⟩ := hl6.qall b' (by omega)
        have cq : wr.cell? ⟨k.q, b', none⟩ = some (by8 y) := ((hl6.qb.cell b').1).trans hy
        have fq : wr.frozen? ⟨k.q, b', none⟩ = false := (hl6.qb.cell b').2
        clear hl6 hy
        have e1 : (b' : Int) < 1536 := by omega
        have e2 : (0 : Int) ≤ (b' : Int) := by omega
        go_wp2_with fail
        go_roundw
        case rel => exact ⟨b' + 1, _, by congr 1, by omega, .inr (by omega), HL6.out.nought OK.out (by have := HM6.out.out; omega) (by omega), HM6.out.pad (by omega), HKP6.out.setCell k.q b' _ (k.mq p), by simp; exact HSZ6.out⟩
        case measure => simp [intOf]; omega
      · clear hl6
        have e1 : (b' : Int) ≤ 1536 := by omega
        have e2 : (0 : Int) ≤ (b' : Int) := by omega
        go_wp2_with fail
        go_ret
        exact ⟨rfl, HL6.out.shut OK.out HBD.out H225.out (.inr (by rw [Nat.sub_self]; exact HM6.out)) HOLD5.out HKP6.out HSZ6.out (by omega) (by omega) (by omega)⟩
end Go.Proofs.YtocbbekciphjgaaDoor.Pa
