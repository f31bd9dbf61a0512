/- PaK, PaL: parts of the proof, one behind another. -/
import Derived.StillTail
import Derived.StillTactics
import Derived.Deep.Cut
import Derived.Deep.CutRange
import Derived.Deep.LoopGhost
import Derived.LoopN
import Derived.WalkMore
import Derived.Outline
import Derived.Test.YtocbbekciphjgaaDoorMz6
/- PaK -/
/- The buffer is filled behind the text's end, or where enough lies ready (yaml_parser_update_buffer): the walks. -/
namespace Go.Proofs.YtocbbekciphjgaaDoor.Pa
open Go.RowKit Go.Proofs.YtocbbekciphjgaaDoor.Rdp
set_option linter.unusedVariables false
set_option linter.unusedSimpArgs false
theorem eqlNil (w : World) : (binOp .eql 105 (.func (.func 129) #[] #[]) .nilFunc).run Tryd.prog w = .ok (.bool false) w := by kernel_rfl
theorem Bk.at {w : World} {b : Nat} {t : TypeId} {L : List Value} (h : Bk w b t L) (i : Nat) {v : Value} (hi : L[i]? = some v) : w.cell? ⟨b, i, none⟩ = some v ∧ w.frozen? ⟨b, i, none⟩ = false := by
  obtain ⟨h1, h2⟩ := h.cell i
  exact ⟨h1.trans hi, h2⟩
theorem Lay.drew {k : Kn} {p c u bp bl rl rpos ip : Nat} {eof : Bool} {L RL BL : List Value} {w : World} (h : Lay k p c u bp bl rl rpos ip eof L RL BL w) : Lay k p c u bp bl rl rpos ip eof L RL BL w.drew :=
  ⟨h.pb, h.plen, h.rb, h.rlen, h.qb, h.qlen, h.qall, h.inp, h.ev, h.at11, h.at13, h.at14, h.at15, h.at17, h.at18, h.at20, h.at21, h.at23, h.hip, h.hrl, h.hrpos, h.hraw, h.hbp, h.hbl, h.buf, h.raw⟩
/-- What lies ready, as a list. -/
def rest (BL : List Value) (bp bl : Nat) : List Value := (BL.drop bp).take (bl - bp)
theorem addr_add (b o j : Nat) : (⟨b, o, none⟩ : Addr).add j = ⟨b, o + j, none⟩ := by
  unfold Addr.add
  split
  · rename_i h; subst h; rfl
  · rfl
theorem Lay.rest {k : Kn} {p c u bp bl rl rpos ip : Nat} {eof : Bool} {L RL BL : List Value} {w : World} (h : Lay k p c u bp bl rl rpos ip eof L RL BL w) :
    (Pa.rest BL bp bl).length = bl - bp ∧ (∀ i, i < bl - bp → (Pa.rest BL bp bl)[i]? = BL[bp + i]?) ∧ (∀ j v, (Pa.rest BL bp bl)[j]? = some v → w.cell? ((⟨k.q, bp, none⟩ : Addr).add j) = some v) ∧ (∀ v ∈ Pa.rest BL bp bl, v.oneCell' = true) := by
  have hq := h.qlen
  have hl := h.hbl
  have hb := h.hbp
  have e : ∀ i, i < bl - bp → (Pa.rest BL bp bl)[i]? = BL[bp + i]? := fun i hi => by unfold Pa.rest; rw [List.getElem?_take_of_lt hi, List.getElem?_drop]
  have hlen : (Pa.rest BL bp bl).length = bl - bp := by unfold Pa.rest; simp; omega
  refine ⟨hlen, e, fun j v hj => ?_, fun v hv => ?_⟩
  · have hjl : j < bl - bp := by rw [← hlen]; exact (List.getElem?_eq_some_iff.1 hj).1
    rw [addr_add, (h.qb.cell (bp + j)).1, ← e j hjl]
    exact hj
  · obtain ⟨i, hi⟩ := List.getElem?_of_mem hv
    have hil : i < bl - bp := by rw [← hlen]; exact (List.getElem?_eq_some_iff.1 hi).1
    obtain ⟨x, hx⟩ := h.qall (bp + i) (by omega)
    rw [e i hil, hx] at hi
    simp only [Option.some.injEq] at hi
    subst hi
    rfl
theorem Lay.at11' {k : Kn} {p c u bp bl rl rpos ip : Nat} {eof : Bool} {L RL BL : List Value} {w : World} (h : Lay k p c u bp bl rl rpos ip eof L RL BL w) : L[11]? = some (.func (.func 129) #[] #[]) := h.at11
set_option maxHeartbeats 4000000 in
set_option maxRecDepth 100000 in
theorem ub_ready (k : Kn) (p c u bp bl n : Nat) (L : List Value) (w : World) (h : Rdr k p c u bp bl L w) (hn : 1 ≤ n) (hu : n ≤ u) :
    Calls Tryd.prog 101 #[.pointer (some ⟨p, 0, none⟩), .int .i64 n] w fun e w' => e = .returned (.bool true) ∧ Upd k p c u n L w w' := by
  have H := Lib.hid h
  obtain ⟨rl, rpos, ip, eof, RL, BL, st, hl, _, hm⟩ := h.ex
  obtain ⟨c11, f11⟩ := hl.pb.at 11 hl.at11'
  obtain ⟨c15, f15⟩ := hl.pb.at 15 hl.at15
  obtain ⟨c16, f16⟩ := hl.pb.at 16 h.at16
  obtain ⟨c18, f18⟩ := hl.pb.at 18 hl.at18
  obtain ⟨c20, f20⟩ := hl.pb.at 20 hl.at20
  obtain ⟨c21, f21⟩ := hl.pb.at 21 hl.at21
  have hd : decide ((n : Int) ≤ (u : Int)) = true := by simp; omega
  have hnf := eqlNil
  rcases hm with ⟨hA, rfl, _⟩ | ⟨hB, _⟩
  · clear hl h hA
    go_enter Tryd.func101, Tryd.ntmps101
    try simp only [List.append]
    go_wp2_with fail
    go_quiet (fail)
    go_wp2_with fail
    go_ret
    exact ⟨rfl, upd_same H.out hn hu _⟩
  · obtain rfl := hB.eof
    obtain rfl : rl = rpos := by have := hB.none; have := hl.hrpos; omega
    clear hl h hB
    go_enter Tryd.func101, Tryd.ntmps101
    try simp only [List.append]
    go_wp2_with fail
    go_quiet (fail)
    go_wp2_with fail
    go_ret
    exact ⟨rfl, upd_same H.out hn hu _⟩
/-- What holds when the buffer's content lies at its beginning, behind the text's end. -/
def PreB (k : Kn) (p c u : Nat) (L : List Value) (w0 : World) (s5 : Value) (w : World) : Prop :=
  ∃ b rl L1 RL BL l, s5 = .int .i64 (b : Nat) ∧ Lay k p c u 0 b rl rl k.T.length true L1 RL BL w ∧ ModeB k.T c u b 0 k.T.length true ∧ L1[16]? = some (.slice (some ⟨k.q, 0, none⟩) l 1536) ∧ l ≤ 1536 ∧ L1[22]? = some (.int .i64 1) ∧
    (∀ j, rdOff j → L1[j]? = L[j]?) ∧ Kp (k.bs p) w0 w ∧ w.heap.size = w0.heap.size
theorem old_set {L L0 : List Value} {i : Nat} {v : Value} (h : ∀ j, rdOff j → L[j]? = L0[j]?) (hi : ¬ rdOff i) : ∀ j, rdOff j → (L.set i v)[j]? = L0[j]? := fun j hj => by
  rw [lset_ne (by rintro rfl; exact hi hj)]
  exact h j hj
theorem Lay.env {k : Kn} {p c u bp bl rl rpos ip : Nat} {eof : Bool} {L RL BL : List Value} {w : World} (h : Lay k p c u bp bl rl rpos ip eof L RL BL w) (ok : k.Ok p) : Env p k.r k.A k.T k.ci L RL rl rpos ip eof w :=
  ⟨h.pb, h.plen, h.rb, h.rlen, h.inp, ok.tlen, ok.tcap, h.at11, h.at13, h.at14, h.at15, h.at20, h.at21, h.hip, h.hrl, h.hrpos, ok.pr, fun j h1 h2 => by
    have := h.raw (j - rpos) (by omega)
    rw [show rpos + (j - rpos) = j by omega] at this
    exact ⟨_, this⟩⟩
theorem Lay.opened {k : Kn} {p c u bp bl rl rpos ip : Nat} {eof : Bool} {L RL BL : List Value} {w : World} (h : Lay k p c u bp bl rl rpos ip eof L RL BL w) (ok : k.Ok p) (v : Value) : Lay k p c u bp bl rl rpos ip eof (L.set 16 v) RL BL (w.setCell ⟨p, 16, none⟩ v) :=
  h.cells ok (h.pb.set 16 _) (by simp only [List.length_set]; exact h.plen) ((Kp.refl _ _).setCell p 16 _ (by simp)) (fun j hj => by unfold rdOwn at hj; exact lset_ne (by omega))
theorem ModeB.one {T : List Int} {c u n ip : Nat} {eof : Bool} (h : ModeB T c u n 0 ip eof) (hG : Rdp.Good T) (hbd : c < T.length → Bd T c) : ModeB T c (u + 1) (n + 1) 0 ip eof := by
  have h1 := h.out
  have h2 := h.lo
  have h3 := h.hi
  have hx := nx_lt T (adv T c u)
  have e : adv T c (u + 1) = nx T (adv T c u) := rfl
  have h4 := h.cov
  refine ⟨h.eof, h.none, h.all, by omega, ?_, by omega, by rw [e]; omega⟩
  rw [e]
  by_cases hlt : adv T c u < T.length
  · have hc : c < T.length := by have := (adv_le T c u).1; omega
    have := (hG.chars _ ((hbd hc).adv u (by omega)) hlt).2
    omega
  · rw [nx_out (by omega)]
    omega
theorem ModeB.pad {T : List Int} {c u n ip : Nat} {eof : Bool} (h : ModeB T c u n 0 ip eof) (hn : n + 1 ≤ 8) : ModeB T c u (n + 1) 0 ip eof := by
  have h1 := h.out
  have h2 := h.lo
  have h3 := (adv_le T c u).1
  exact ⟨h.eof, h.none, h.all, by omega, by omega, by omega, h.cov⟩
theorem off16 : ¬ rdOff 16 := by unfold rdOff; omega
theorem off17 : ¬ rdOff 17 := by unfold rdOff; omega
theorem off18 : ¬ rdOff 18 := by unfold rdOff; omega
theorem off22 : ¬ rdOff 22 := by unfold rdOff; omega
set_option maxHeartbeats 8000000 in
set_option maxRecDepth 100000 in
theorem ub_b (k : Kn) (p c u bp bl n rl : Nat) (L RL BL : List Value) (w : World) (ok : k.Ok p) (hbd : c < k.T.length → Bd k.T c) (hl : Lay k p c u bp bl rl rl k.T.length true L RL BL w) (h16 : L[16]? = some (.slice (some ⟨k.q, 0, none⟩) bl 1536)) (h22 : L[22]? = some (.int .i64 1))
    (hm : ModeB k.T c u (bl - bp) 0 k.T.length true) (hn : 1 ≤ n) (hn8 : n ≤ 8) (hu : u < n) :
    Calls Tryd.prog 101 #[.pointer (some ⟨p, 0, none⟩), .int .i64 n] w fun e w' => e = .returned (.bool true) ∧ Upd k p c u n L w w' := by
  have HL := Lib.hid hl
  have OK := Lib.hid ok
  have HBD := Lib.hid hbd
  have HM := Lib.hid hm
  have H22 := Lib.hid h22
  obtain ⟨c11, f11⟩ := hl.pb.at 11 hl.at11'
  obtain ⟨c15, f15⟩ := hl.pb.at 15 hl.at15
  obtain ⟨c16, f16⟩ := hl.pb.at 16 h16
  obtain ⟨c17, f17⟩ := hl.pb.at 17 hl.at17
  obtain ⟨c18, f18⟩ := hl.pb.at 18 hl.at18
  obtain ⟨c20, f20⟩ := hl.pb.at 20 hl.at20
  obtain ⟨c21, f21⟩ := hl.pb.at 21 hl.at21
  obtain ⟨c22, f22⟩ := hl.pb.at 22 h22
  have hbp := hl.hbp
  have hbl := hl.hbl
  have hd : decide ((n : Int) ≤ (u : Int)) = false := by simp; omega
  have hdn : decide (n ≤ u) = false := by simp; omega
  have hnf := eqlNil
  have H16 := Lib.hid h16
  clear hl ok hbd hm h22 h16
  go_enter Tryd.func101, Tryd.ntmps101
  try simp only [List.append]
  go_wp2_with fail
  go_quiet (fail)
  clear c11 c15 c16 c17 c18 c20 c21 c22 f11 f15 f16 f17 f18 f20 f21 f22
  obtain ⟨wd, hwd⟩ : ∃ wd : World, wd = w.drewN nq := ⟨_, rfl⟩
  have HLD : Hid (Lay k p c u bp bl rl rl k.T.length true L RL BL wd) := by rw [hwd]; exact HL.out.drewN nq
  have HKP : Hid (Kp (k.bs p) w wd ∧ wd.heap.size = w.heap.size) := by rw [hwd]; exact ⟨(Kp.refl _ _).drewN nq, rfl⟩
  rw [← hwd]
  clear hwd
  obtain ⟨c15, f15⟩ := HLD.out.pb.at 15 HLD.out.at15
  obtain ⟨c16, f16⟩ := HLD.out.pb.at 16 H16.out
  obtain ⟨c17, f17⟩ := HLD.out.pb.at 17 HLD.out.at17
  obtain ⟨c18, f18⟩ := HLD.out.pb.at 18 HLD.out.at18
  obtain ⟨c20, f20⟩ := HLD.out.pb.at 20 HLD.out.at20
  obtain ⟨c21, f21⟩ := HLD.out.pb.at 21 HLD.out.at21
  obtain ⟨c22, f22⟩ := HLD.out.pb.at 22 H22.out
  go_upto_region 10 with fail
  go_cut [68] from 56 to 68 (fun s68 wx => s68 = .bool (decide (0 < bp) && decide (bp < bl)) ∧ wx = wd)
  case first =>
    by_cases h0 : 0 < bp
    · have h0b : decide ((0 : Int) < (bp : Int)) = true := by simp; omega
      by_cases h1 : bp < bl
      · have h1b : decide ((bp : Int) < (bl : Int)) = true := by simp; omega
        go_wp2_with fail
        go_meet
        case rel => exact ⟨by simp [h0, h1], rfl⟩
      · have h1b : decide ((bp : Int) < (bl : Int)) = false := by simp; omega
        go_wp2_with fail
        go_meet
        case rel => exact ⟨by simp [h1], rfl⟩
    · have h0b : decide ((0 : Int) < (bp : Int)) = false := by simp; omega
      go_wp2_with fail
      go_meet
      case rel => exact ⟨by simp [h0], rfl⟩
  case rest =>
    obtain ⟨rfl, rfl⟩ := hcut
    go_upto_if 68 with fail
    go_cut [5] from 56 to 100 (fun s5 wx => PreB k p c u L w s5 wx)
    case first =>
      by_cases hmv : 0 < bp ∧ bp < bl
      · have hb : (decide (0 < bp) && decide (bp < bl)) = true := by simp; exact hmv
        rw [hb]
        have i1 : (bp : Int) ≤ (bl : Int) := by omega
        have i2 : (bl : Int) ≤ 1536 := by omega
        have i3 : (0 : Int) ≤ (bp : Int) := by omega
        have i4 : ¬ (1536 = bp) := by omega
        obtain ⟨r1, r2, r3, r4⟩ := HLD.out.rest
        have R1 := Lib.hid r1
        have R2 := Lib.hid r2
        have R3 := Lib.hid r3
        have R4 := Lib.hid r4
        have HMV := Lib.hid hmv
        clear r1 r2 r3 r4 hmv
        go_upto_region 11 with fail
        refine wp_region_still_tail 13 (by kernel_rfl) (by kernel_rfl) ?_
        simp only [List.take_succ_cons, List.take_zero, List.drop_succ_cons, List.drop_zero]
        repeat still_step
        refine wpStill_nil ?_
        change wpList _ _ _ _ _ wc.drew
        refine wpList_copy_bk rfl (.tmp 72) (.tmp 81) rfl k.q 0 bl 1536 ⟨k.q, bp, none⟩ (bl - bp) (1536 - bp) rfl rfl BL HLD.out.qb.drew (Pa.rest BL bp bl) (by rw [R1.out]; exact (Nat.min_eq_left (by omega)).symm) R3.out (by have := R1.out; have := HLD.out.qlen; omega) R4.out ?_
        have hmoved := HLD.out.drew.moved OK.out (Pa.rest BL bp bl) R1.out R2.out
        have hpb2 : Bk (wc.drew.setRow k.q (splice BL 0 (Pa.rest BL bp bl)).toArray) p 120 L := (setRow_other wc.drew k.q p _ OK.out.pq).trans HLD.out.pb
        have hkp2 : Kp (k.bs p) w ((wc.drew.setRow k.q (splice BL 0 (Pa.rest BL bp bl)).toArray).setCell ⟨p, 17, none⟩ (.int .i64 0)) ∧ ((wc.drew.setRow k.q (splice BL 0 (Pa.rest BL bp bl)).toArray).setCell ⟨p, 17, none⟩ (.int .i64 0)).heap.size = w.heap.size :=
          ⟨(HKP.out.1.drew.setRow k.q _ (k.mq p)).setCell p 17 _ (k.mp p), by have := HKP.out.2; simp [World.setRow]; exact this⟩
        rw [R1.out]
        obtain ⟨d17, e17⟩ := hpb2.at 17 HLD.out.at17
        have HMD := Lib.hid hmoved
        have HK2 := Lib.hid hkp2
        clear hmoved hpb2 hkp2 c15 c16 c17 c18 c20 c21 c22 f15 f16 f17 f18 f20 f21 f22
        generalize wc.drew.setRow k.q (splice BL 0 (Pa.rest BL bp bl)).toArray = w2 at *
        go_wp2_with fail
        go_meet
        case rel =>
          refine ⟨bl - bp, rl, _, RL, _, bl, by congr 1; omega, HMD.out, HM.out, ?_, by omega, ?_, old_set (fun _ _ => rfl) off17, HK2.out.1, HK2.out.2⟩
          · rw [lset_ne (by omega)]; exact H16.out
          · rw [lset_ne (by omega)]; exact H22.out
      · have hb : (decide (0 < bp) && decide (bp < bl)) = false := by simp; omega
        rw [hb]
        by_cases he : bp = bl
        · subst he
          clear hmv
          go_wp2_with fail
          go_meet
          case rel =>
            have hm := HM.out
            rw [Nat.sub_self] at hm
            refine ⟨0, rl, _, RL, _, bp, rfl, HLD.out.empty OK.out rfl, hm, ?_, by omega, ?_, old_set (fun _ _ => rfl) off17, HKP.out.1.setCell p 17 _ (k.mp p), by simp; exact HKP.out.2⟩
            · rw [lset_ne (by omega)]; exact H16.out
            · rw [lset_ne (by omega)]; exact H22.out
        · obtain rfl : bp = 0 := by omega
          have heb : ((0 : Int) == (bl : Int)) = false := by rw [beq_eq_false_iff_ne]; omega
          have d17 : wc.cell? ⟨p, 17, none⟩ = some (.int .i64 0) := c17
          clear he hmv c17
          go_wp2_with fail
          go_meet
          case rel =>
            have hm := HM.out
            rw [Nat.sub_zero] at hm
            exact ⟨bl, rl, _, RL, _, bl, rfl, HLD.out, hm, H16.out, by omega, H22.out, fun _ _ => rfl, HKP.out.1, HKP.out.2⟩
    case rest =>
      obtain ⟨b, r1, L1, RL1, BL1, l, rfl, hl1, hm1, h161, hl2, h221, hold, hkp1, hsz1⟩ := hcut
      clear HLD HKP HL H16 H22 HM c15 c16 c17 c18 c20 c21 c22 f15 f16 f17 f18 f20 f21 f22
      obtain ⟨c16, f16⟩ := hl1.pb.at 16 h161
      have hbl1 := hl1.hbl
      have HL1 := Lib.hid hl1
      have HM1 := Lib.hid hm1
      have HOLD := Lib.hid hold
      have HKP1 := Lib.hid hkp1
      have HSZ1 := Lib.hid hsz1
      have H221 := Lib.hid h221
      clear hl1 hm1 hold hkp1 hsz1 h161 h221
      have i1 : (l : Int) ≤ 1536 := by omega
      have i2 : (0 : Int) ≤ (l : Int) := by omega
      go_wp2_with fail
      refine wp_region_still_tail 13 (by kernel_rfl) (by kernel_rfl) ?_
      simp only [List.take_succ_cons, List.take_zero, List.drop_succ_cons, List.drop_zero]
      repeat still_step
      refine wpStill_nil ?_
      change wpList _ _ _ _ _ wc.drew
      go_wp2_with fail
      have hopen : Hid (∃ L2 w2, Lay k p c u 0 b r1 r1 k.T.length true L2 RL1 BL1 w2 ∧ True) := ⟨_, _, HL1.out, trivial⟩
      clear hopen
      refine wp_loop_rounds 1 ?_
      rw [rounds_succ]
      have hl3 := HL1.out.drew.opened OK.out (.slice (some ⟨k.q, 0, none⟩) 1536 1536)
      have hkp3 := HKP1.out.drew.setCell p 16 (.slice (some ⟨k.q, 0, none⟩) 1536 1536) (k.mp p)
      have hsz3 : (wc.drew.setCell ⟨p, 16, none⟩ (.slice (some ⟨k.q, 0, none⟩) 1536 1536)).heap.size = w.heap.size := by simp; exact HSZ1.out
      have h163 : (L1.set 16 (.slice (some ⟨k.q, 0, none⟩) 1536 1536))[16]? = some (.slice (some ⟨k.q, 0, none⟩) 1536 1536) := lset_at (by have := HL1.out.plen; omega)
      have h223 : (L1.set 16 (.slice (some ⟨k.q, 0, none⟩) 1536 1536))[22]? = some (.int .i64 1) := by rw [lset_ne (by omega)]; exact H221.out
      have hold3 := old_set (v := .slice (some ⟨k.q, 0, none⟩) 1536 1536) HOLD.out off16
      generalize hw3 : wc.drew.setCell ⟨p, 16, none⟩ (.slice (some ⟨k.q, 0, none⟩) 1536 1536) = w3 at hl3 hkp3 hsz3
      have hw3' : (wc.setCell ⟨p, 16, none⟩ (.slice (some ⟨k.q, 0, none⟩) 1536 1536)).drew = w3 := hw3
      first | rw [hw3] | rw [hw3']
      clear hw3 hw3'
      generalize L1.set 16 (.slice (some ⟨k.q, 0, none⟩) 1536 1536) = L2 at *
      clear HL1 HOLD HKP1 HSZ1 H221 c16 f16
      obtain ⟨c15, f15⟩ := hl3.pb.at 15 hl3.at15
      obtain ⟨c16, f16⟩ := hl3.pb.at 16 h163
      obtain ⟨c18, f18⟩ := hl3.pb.at 18 hl3.at18
      obtain ⟨c20, f20⟩ := hl3.pb.at 20 hl3.at20
      obtain ⟨c21, f21⟩ := hl3.pb.at 21 hl3.at21
      have hus := ur_stop p k.r k.A k.T k.ci L2 RL1 r1 r1 k.T.length true
      have hlt : decide ((u : Int) < (n : Int)) = true := by simp; omega
      have hltn : decide (u < n) = true := by simp; omega
      have HL2 := Lib.hid hl3
      have H162 := Lib.hid h163
      have H222 := Lib.hid h223
      have HOLD2 := Lib.hid hold3
      have HKP2 := Lib.hid hkp3
      have HSZ2 := Lib.hid hsz3
      have HUS := Lib.hid hus
      clear hl3 h163 h223 hold3 hkp3 hsz3 hus
      go_wp2_with fail
      go_step3
      go_wp2_with fail
      go_quiet (fail)
      go_wp2_with fail
      refine (HUS.out _ ((HL2.out.drewN _).env OK.out) (by simp)).mono ?_
      rintro e w4 ⟨rfl, kd, hw4⟩
      have hl4 : Lay k p c u 0 b r1 r1 k.T.length true L2 RL1 BL1 w4 := by rw [hw4]; exact (HL2.out.drewN _).drewN kd
      have hkp4 : Kp (k.bs p) w w4 := by rw [hw4]; exact (HKP2.out.drewN _).drewN kd
      have hsz4 : w4.heap.size = w.heap.size := by rw [hw4]; exact HSZ2.out
      clear hw4
      clear HL2 HKP2 HSZ2 c15 c16 c18 c20 c21 f15 f16 f18 f20 f21 HUS
      obtain ⟨c15, f15⟩ := hl4.pb.at 15 hl4.at15
      obtain ⟨c16, f16⟩ := hl4.pb.at 16 H162.out
      obtain ⟨c18, f18⟩ := hl4.pb.at 18 hl4.at18
      obtain ⟨c20, f20⟩ := hl4.pb.at 20 hl4.at20
      obtain ⟨c21, f21⟩ := hl4.pb.at 21 hl4.at21
      obtain ⟨y, hy⟩ := hl4.qall b (by omega)
      have cq : w4.cell? ⟨k.q, b, none⟩ = some (by8 y) := ((hl4.qb.cell b).1).trans hy
      have fq : w4.frozen? ⟨k.q, b, none⟩ = false := (hl4.qb.cell b).2
      have HL4 := Lib.hid hl4
      have HKP4 := Lib.hid hkp4
      have HSZ4 := Lib.hid hsz4
      clear hl4 hkp4 hsz4 hy
      go_wp2_with fail
      go_step3
      go_wp2_with fail
      refine wp_loop_rounds 1 ?_
      rw [rounds_succ]
      have b1 : (b : Int) < 1536 := by omega
      have hpq : ¬ p = k.q := OK.out.pq
      have hqp : ¬ k.q = p := Ne.symm OK.out.pq
      have b2 : (0 : Int) ≤ (b : Int) := by omega
      go_wp2_with fail
      go_quiet (fail)
      go_wp2_with fail
      rw [Exit.noGoto_exit]
      go_wp2_with fail
      have hl5 := ((HL4.out.drewN nq).nought OK.out (by have := HM1.out.out; omega) (by have := HM1.out.hi; have := adv_four k.T c u; omega)).count (u' := u + 1) OK.out (v := (u : Int) + 1) (by omega)
      have hkp5 := ((HKP4.out.drewN nq).setCell k.q b (.int .u8 0) (k.mq p)).setCell p 18 (.int .i64 ((u : Int) + 1)) (k.mp p)
      have hsz5 : (((w4.drewN nq).setCell ⟨k.q, b, none⟩ (.int .u8 0)).setCell ⟨p, 18, none⟩ (.int .i64 ((u : Int) + 1))).heap.size = w.heap.size := by simp; exact HSZ4.out
      have hm5 := HM1.out.one OK.out.good HBD.out
      have h165 : (L2.set 18 (.int .i64 ((u : Int) + 1)))[16]? = some (.slice (some ⟨k.q, 0, none⟩) 1536 1536) := by rw [lset_ne (by omega)]; exact H162.out
      have h225 : (L2.set 18 (.int .i64 ((u : Int) + 1)))[22]? = some (.int .i64 1) := by rw [lset_ne (by omega)]; exact H222.out
      have hold5 := old_set (v := .int .i64 ((u : Int) + 1)) HOLD2.out off18
      generalize L2.set 18 (.int .i64 ((u : Int) + 1)) = L3 at *
      generalize ((w4.drewN nq).setCell ⟨k.q, b, none⟩ (.int .u8 0)).setCell ⟨p, 18, none⟩ (.int .i64 ((u : Int) + 1)) = w5 at *
      have HL5 := Lib.hid hl5
      have HKP5 := Lib.hid hkp5
      have HSZ5 := Lib.hid hsz5
      have HM5 := Lib.hid hm5
      have H165 := Lib.hid h165
      have H225 := Lib.hid h225
      have HOLD5 := Lib.hid hold5
      clear hl5 hkp5 hsz5 hm5 h165 h225 hold5 HL4 HKP4 HSZ4 HM1 H162 H222 HOLD2 c15 c16 c18 c20 c21 f15 f16 f18 f20 f21 cq fq
      go_loopw [5] (fun s5 wr => ∃ b' BL3, s5 = .int .i64 (b' : Nat) ∧ b + 1 ≤ b' ∧ (b' = b + 1 ∨ b' ≤ 8) ∧ Lay k p c (u + 1) 0 b' r1 r1 k.T.length true L3 RL1 BL3 wr ∧ ModeB k.T c (u + 1) b' 0 k.T.length true ∧ Kp (k.bs p) w wr ∧ wr.heap.size = w.heap.size) (fun s5 _ => n - (intOf s5).toNat)
      case atStart => exact ⟨b + 1, _, by congr 1, Nat.le_refl _, .inl rfl, HL5.out, HM5.out, HKP5.out, HSZ5.out⟩
      obtain ⟨b', BL3, rfl, hb1, hb8, hl6, hm6, hkp6, hsz6⟩ := hrel
      obtain ⟨c16, f16⟩ := hl6.pb.at 16 H165.out
      have hb541 := hl6.hbl
      have HL6 := Lib.hid hl6
      have HM6 := Lib.hid hm6
      have HKP6 := Lib.hid hkp6
      have HSZ6 := Lib.hid hsz6
      clear hm6 hkp6 hsz6 HL5 HM5 HKP5 HSZ5
      by_cases hbn : b' < n
      · obtain ⟨y, hy⟩ := hl6.qall b' (by omega)
        have cq : wr.cell? ⟨k.q, b', none⟩ = some (by8 y) := ((hl6.qb.cell b').1).trans hy
        have fq : wr.frozen? ⟨k.q, b', none⟩ = false := (hl6.qb.cell b').2
        clear hl6 hy
        have e1 : (b' : Int) < 1536 := by omega
        have e2 : (0 : Int) ≤ (b' : Int) := by omega
        go_wp2_with fail
        go_roundw
        case rel => exact ⟨b' + 1, _, by congr 1, by omega, .inr (by omega), HL6.out.nought OK.out (by have := HM6.out.out; omega) (by omega), HM6.out.pad (by omega), HKP6.out.setCell k.q b' _ (k.mq p), by simp; exact HSZ6.out⟩
        case measure => simp [intOf]; omega
      · clear hl6
        have e1 : (b' : Int) ≤ 1536 := by omega
        have e2 : (0 : Int) ≤ (b' : Int) := by omega
        go_wp2_with fail
        go_ret
        exact ⟨rfl, HL6.out.shut OK.out HBD.out H225.out (.inr (by rw [Nat.sub_self]; exact HM6.out)) HOLD5.out HKP6.out HSZ6.out (by omega) (by omega) (by omega) (.inr HM6.out.cov)⟩
end Go.Proofs.YtocbbekciphjgaaDoor.Pa
/- PaL -/
/- The loops of yaml_parser_update_buffer, taken out of it; frames by their slots. -/
namespace Go.Proofs.YtocbbekciphjgaaDoor.Pa
open Go.RowKit Go.Proofs.YtocbbekciphjgaaDoor.Rdp
set_option linter.unusedVariables false
/-- What a slot holds. -/
def gt (a : Act) (i : Nat) : Value := a.tmps.getD i undef
theorem act_lit (n : Nat) (a : Act) (h : a.tmps.size = n) (hd : a.defers = []) : a = ⟨(List.map (gt a) (List.range n)).toArray, []⟩ := by
  cases a with
  | mk ts ds =>
    simp only at h hd
    subst hd
    congr 1
    apply Array.ext
    · simp [h]
    · intro i h1 h2
      simp [gt, h1]
def firstLoop : Code → Option Code
  | .loop c => some c
  | .seq a b => match firstLoop a with
    | some c => some c
    | none => firstLoop b
  | .block _ c => firstLoop c
  | .scope c => firstLoop c
  | .cond _ a b => match firstLoop a with
    | some c => some c
    | none => firstLoop b
  | _ => none
/-- The outer loop's body, and the inner one's. -/
noncomputable def oBody : Code := (Tryd.f101.body.bind firstLoop).getD .skip
noncomputable def iBody : Code := (firstLoop oBody).getD .skip
set_option maxRecDepth 1000000 in
theorem lit690 (a : Act) (h : a.tmps.size = 690) (hd : a.defers = []) : a = ⟨#[gt a 0, gt a 1, gt a 2, gt a 3, gt a 4, gt a 5, gt a 6, gt a 7, gt a 8, gt a 9, gt a 10, gt a 11, gt a 12, gt a 13, gt a 14, gt a 15, gt a 16, gt a 17, gt a 18, gt a 19, gt a 20, gt a 21, gt a 22, gt a 23, gt a 24, gt a 25, gt a 26, gt a 27, gt a 28, gt a 29, gt a 30, gt a 31, gt a 32, gt a 33, gt a 34, gt a 35, gt a 36, gt a 37, gt a 38, gt a 39, gt a 40, gt a 41, gt a 42, gt a 43, gt a 44, gt a 45, gt a 46, gt a 47, gt a 48, gt a 49, gt a 50, gt a 51, gt a 52, gt a 53, gt a 54, gt a 55, gt a 56, gt a 57, gt a 58, gt a 59, gt a 60, gt a 61, gt a 62, gt a 63, gt a 64, gt a 65, gt a 66, gt a 67, gt a 68, gt a 69, gt a 70, gt a 71, gt a 72, gt a 73, gt a 74, gt a 75, gt a 76, gt a 77, gt a 78, gt a 79, gt a 80, gt a 81, gt a 82, gt a 83, gt a 84, gt a 85, gt a 86, gt a 87, gt a 88, gt a 89, gt a 90, gt a 91, gt a 92, gt a 93, gt a 94, gt a 95, gt a 96, gt a 97, gt a 98, gt a 99, gt a 100, gt a 101, gt a 102, gt a 103, gt a 104, gt a 105, gt a 106, gt a 107, gt a 108, gt a 109, gt a 110, gt a 111, gt a 112, gt a 113, gt a 114, gt a 115, gt a 116, gt a 117, gt a 118, gt a 119, gt a 120, gt a 121, gt a 122, gt a 123, gt a 124, gt a 125, gt a 126, gt a 127, gt a 128, gt a 129, gt a 130, gt a 131, gt a 132, gt a 133, gt a 134, gt a 135, gt a 136, gt a 137, gt a 138, gt a 139, gt a 140, gt a 141, gt a 142, gt a 143, gt a 144, gt a 145, gt a 146, gt a 147, gt a 148, gt a 149, gt a 150, gt a 151, gt a 152, gt a 153, gt a 154, gt a 155, gt a 156, gt a 157, gt a 158, gt a 159, gt a 160, gt a 161, gt a 162, gt a 163, gt a 164, gt a 165, gt a 166, gt a 167, gt a 168, gt a 169, gt a 170, gt a 171, gt a 172, gt a 173, gt a 174, gt a 175, gt a 176, gt a 177, gt a 178, gt a 179, gt a 180, gt a 181, gt a 182, gt a 183, gt a 184, gt a 185, gt a 186, gt a 187, gt a 188, gt a 189, gt a 190, gt a 191, gt a 192, gt a 193, gt a 194, gt a 195, gt a 196, gt a 197, gt a 198, gt a 199, gt a 200, gt a 201, gt a 202, gt a 203, gt a 204, gt a 205, gt a 206, gt a 207, gt a 208, gt a 209, gt a 210, gt a 211, gt a 212, gt a 213, gt a 214, gt a 215, gt a 216, gt a 217, gt a 218, gt a 219, gt a 220, gt a 221, gt a 222, gt a 223, gt a 224, gt a 225, gt a 226, gt a 227, gt a 228, gt a 229, gt a 230, gt a 231, gt a 232, gt a 233, gt a 234, gt a 235, gt a 236, gt a 237, gt a 238, gt a 239, gt a 240, gt a 241, gt a 242, gt a 243, gt a 244, gt a 245, gt a 246, gt a 247, gt a 248, gt a 249, gt a 250, gt a 251, gt a 252, gt a 253, gt a 254, gt a 255, gt a 256, gt a 257, gt a 258, gt a 259, gt a 260, gt a 261, gt a 262, gt a 263, gt a 264, gt a 265, gt a 266, gt a 267, gt a 268, gt a 269, gt a 270, gt a 271, gt a 272, gt a 273, gt a 274, gt a 275, gt a 276, gt a 277, gt a 278, gt a 279, gt a 280, gt a 281, gt a 282, gt a 283, gt a 284, gt a 285, gt a 286, gt a 287, gt a 288, gt a 289, gt a 290, gt a 291, gt a 292, gt a 293, gt a 294, gt a 295, gt a 296, gt a 297, gt a 298, gt a 299, gt a 300, gt a 301, gt a 302, gt a 303, gt a 304, gt a 305, gt a 306, gt a 307, gt a 308, gt a 309, gt a 310, gt a 311, gt a 312, gt a 313, gt a 314, gt a 315, gt a 316, gt a 317, gt a 318, gt a 319, gt a 320, gt a 321, gt a 322, gt a 323, gt a 324, gt a 325, gt a 326, gt a 327, gt a 328, gt a 329, gt a 330, gt a 331, gt a 332, gt a 333, gt a 334, gt a 335, gt a 336, gt a 337, gt a 338, gt a 339, gt a 340, gt a 341, gt a 342, gt a 343, gt a 344, gt a 345, gt a 346, gt a 347, gt a 348, gt a 349, gt a 350, gt a 351, gt a 352, gt a 353, gt a 354, gt a 355, gt a 356, gt a 357, gt a 358, gt a 359, gt a 360, gt a 361, gt a 362, gt a 363, gt a 364, gt a 365, gt a 366, gt a 367, gt a 368, gt a 369, gt a 370, gt a 371, gt a 372, gt a 373, gt a 374, gt a 375, gt a 376, gt a 377, gt a 378, gt a 379, gt a 380, gt a 381, gt a 382, gt a 383, gt a 384, gt a 385, gt a 386, gt a 387, gt a 388, gt a 389, gt a 390, gt a 391, gt a 392, gt a 393, gt a 394, gt a 395, gt a 396, gt a 397, gt a 398, gt a 399, gt a 400, gt a 401, gt a 402, gt a 403, gt a 404, gt a 405, gt a 406, gt a 407, gt a 408, gt a 409, gt a 410, gt a 411, gt a 412, gt a 413, gt a 414, gt a 415, gt a 416, gt a 417, gt a 418, gt a 419, gt a 420, gt a 421, gt a 422, gt a 423, gt a 424, gt a 425, gt a 426, gt a 427, gt a 428, gt a 429, gt a 430, gt a 431, gt a 432, gt a 433, gt a 434, gt a 435, gt a 436, gt a 437, gt a 438, gt a 439, gt a 440, gt a 441, gt a 442, gt a 443, gt a 444, gt a 445, gt a 446, gt a 447, gt a 448, gt a 449, gt a 450, gt a 451, gt a 452, gt a 453, gt a 454, gt a 455, gt a 456, gt a 457, gt a 458, gt a 459, gt a 460, gt a 461, gt a 462, gt a 463, gt a 464, gt a 465, gt a 466, gt a 467, gt a 468, gt a 469, gt a 470, gt a 471, gt a 472, gt a 473, gt a 474, gt a 475, gt a 476, gt a 477, gt a 478, gt a 479, gt a 480, gt a 481, gt a 482, gt a 483, gt a 484, gt a 485, gt a 486, gt a 487, gt a 488, gt a 489, gt a 490, gt a 491, gt a 492, gt a 493, gt a 494, gt a 495, gt a 496, gt a 497, gt a 498, gt a 499, gt a 500, gt a 501, gt a 502, gt a 503, gt a 504, gt a 505, gt a 506, gt a 507, gt a 508, gt a 509, gt a 510, gt a 511, gt a 512, gt a 513, gt a 514, gt a 515, gt a 516, gt a 517, gt a 518, gt a 519, gt a 520, gt a 521, gt a 522, gt a 523, gt a 524, gt a 525, gt a 526, gt a 527, gt a 528, gt a 529, gt a 530, gt a 531, gt a 532, gt a 533, gt a 534, gt a 535, gt a 536, gt a 537, gt a 538, gt a 539, gt a 540, gt a 541, gt a 542, gt a 543, gt a 544, gt a 545, gt a 546, gt a 547, gt a 548, gt a 549, gt a 550, gt a 551, gt a 552, gt a 553, gt a 554, gt a 555, gt a 556, gt a 557, gt a 558, gt a 559, gt a 560, gt a 561, gt a 562, gt a 563, gt a 564, gt a 565, gt a 566, gt a 567, gt a 568, gt a 569, gt a 570, gt a 571, gt a 572, gt a 573, gt a 574, gt a 575, gt a 576, gt a 577, gt a 578, gt a 579, gt a 580, gt a 581, gt a 582, gt a 583, gt a 584, gt a 585, gt a 586, gt a 587, gt a 588, gt a 589, gt a 590, gt a 591, gt a 592, gt a 593, gt a 594, gt a 595, gt a 596, gt a 597, gt a 598, gt a 599, gt a 600, gt a 601, gt a 602, gt a 603, gt a 604, gt a 605, gt a 606, gt a 607, gt a 608, gt a 609, gt a 610, gt a 611, gt a 612, gt a 613, gt a 614, gt a 615, gt a 616, gt a 617, gt a 618, gt a 619, gt a 620, gt a 621, gt a 622, gt a 623, gt a 624, gt a 625, gt a 626, gt a 627, gt a 628, gt a 629, gt a 630, gt a 631, gt a 632, gt a 633, gt a 634, gt a 635, gt a 636, gt a 637, gt a 638, gt a 639, gt a 640, gt a 641, gt a 642, gt a 643, gt a 644, gt a 645, gt a 646, gt a 647, gt a 648, gt a 649, gt a 650, gt a 651, gt a 652, gt a 653, gt a 654, gt a 655, gt a 656, gt a 657, gt a 658, gt a 659, gt a 660, gt a 661, gt a 662, gt a 663, gt a 664, gt a 665, gt a 666, gt a 667, gt a 668, gt a 669, gt a 670, gt a 671, gt a 672, gt a 673, gt a 674, gt a 675, gt a 676, gt a 677, gt a 678, gt a 679, gt a 680, gt a 681, gt a 682, gt a 683, gt a 684, gt a 685, gt a 686, gt a 687, gt a 688, gt a 689], []⟩ := act_lit 690 a h hd
end Go.Proofs.YtocbbekciphjgaaDoor.Pa
