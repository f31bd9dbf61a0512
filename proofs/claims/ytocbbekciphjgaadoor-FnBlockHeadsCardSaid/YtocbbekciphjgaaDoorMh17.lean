/- ScE, ScG, QxB: parts of the proof, one behind another. -/
import Derived.Test.YtocbbekciphjgaaDoorMz15
import Derived.Test.YtocbbekciphjgaaDoorMz16
import Derived.Test.YtocbbekciphjgaaDoorMh2
import Derived.Test.YtocbbekciphjgaaDoorMh16
/- ScE -/
/- No version: the walk (yaml_parser_scan_version_directive_value, where no point follows). -/
namespace Go.Proofs.YtocbbekciphjgaaDoor.Sc
open Go.RowKit Go.Proofs.YtocbbekciphjgaaDoor.Rdp Go.Proofs.YtocbbekciphjgaaDoor.Pa
set_option linter.unusedVariables false
set_option linter.unusedSimpArgs false
set_option maxHeartbeats 16000000 in
set_option maxRecDepth 100000 in
theorem bad_any (k : Kn) (p c u bp bl mi mc s n1 m1 m2 : Nat) (z v1 v2 s0 s1 s2 : Int) (L : List Value) (w : World) (hr : RoundOk k p) (h : Rdr k p c u bp bl L w) (h24 : L[24]? = some (.int .i64 (mi : Nat))) (h26 : L[26]? = some (.int .i64 (mc : Nat))) (h19 : L[19]? = some (.int .i64 z)) (hmi : mi ≤ 1000000) (hmc : mc ≤ 1000000) (hs : s ≤ 1000000)
    (hbl : ∀ i, i < s → S k.T (c + i) = 32) (hn1 : 1 ≤ n1) (hn2 : n1 ≤ 2) (hd1 : ∀ i, i < n1 → isDigit (S k.T (c + s + i)) = true) (hdot : S k.T (c + s + n1) ≠ 46) (hend : isDigit (S k.T (c + s + n1)) = false) (hce : Cells L) (h25 : ∃ z, L[25]? = some (.int .i64 z))
    (hm1 : w.cell? ⟨m1, 0, none⟩ = some (.int .i8 v1)) (hmf1 : w.frozen? ⟨m1, 0, none⟩ = false) (hm2 : w.cell? ⟨m2, 0, none⟩ = some (.int .i8 v2)) (hmf2 : w.frozen? ⟨m2, 0, none⟩ = false) (hne : m1 ≠ m2) (hf1 : Far k p m1) (hf2 : Far k p m2) (hg : 2 < w.heap.size) :
    Calls Tryd.prog 64 #[.pointer (some ⟨p, 0, none⟩), .agg #[.int .i64 s0, .int .i64 s1, .int .i64 s2], .pointer (some ⟨m1, 0, none⟩), .pointer (some ⟨m2, 0, none⟩)] w fun e w' => e = .returned (.bool false) ∧ ∃ L', Bk w' p 120 L' ∧ Cells L' ∧ L'[0]? = some (.int .i64 3) ∧ Kp (m1 :: m2 :: k.bs p) w w' := by
  have hb0 : Below w.heap.size w (w.alloc (.cells #[.int .i64 s0, .int .i64 s1, .int .i64 s2] 74)) := (Below.refl _ _).alloc (Nat.le_refl _) _
  have hr0 := rdr_new h hb0
  have hk0 : Kp [] w (w.alloc (.cells #[.int .i64 s0, .int .i64 s1, .int .i64 s2] 74)) := Kp.of_below hb0
  have hg0 : 2 < (w.alloc (.cells #[.int .i64 s0, .int .i64 s1, .int .i64 s2] 74)).heap.size := by simp; omega
  have q0 : (w.alloc (.cells #[.int .i64 s0, .int .i64 s1, .int .i64 s2] 74)).cell? ⟨w.heap.size, 0, none⟩ = some (.int .i64 s0) := by simp
  have q1 : (w.alloc (.cells #[.int .i64 s0, .int .i64 s1, .int .i64 s2] 74)).cell? ⟨w.heap.size, 1, none⟩ = some (.int .i64 s1) := by simp
  have q2 : (w.alloc (.cells #[.int .i64 s0, .int .i64 s1, .int .i64 s2] 74)).cell? ⟨w.heap.size, 2, none⟩ = some (.int .i64 s2) := by simp
  obtain ⟨wa, HWA⟩ : ∃ wa : World, Hid (w.alloc (.cells #[.int .i64 s0, .int .i64 s1, .int .i64 s2] 74) = wa) := ⟨_, rfl⟩
  rw [HWA.out] at hr0 hk0 hg0 q0 q1 q2
  have hW : w.heap.size ∉ m1 :: m2 :: k.bs p := by
    have l1 := World.block_lt_of_cell? w ⟨m1, 0, none⟩ hm1
    have l2 := World.block_lt_of_cell? w ⟨m2, 0, none⟩ hm2
    obtain ⟨rl, rpos, ip, eof, RL, BL, st, hl, _⟩ := h.ex
    have l3 := hl.pb.lt
    have l4 := hl.rb.lt
    have l5 := hl.qb.lt
    unfold Kn.bs
    simp at l1 l2 ⊢
    omega
  have HW := Lib.hid hW
  have HR0 := Lib.hid hr0
  have HK0 := Lib.hid hk0
  have HRR := Lib.hid hr
  have H24 := Lib.hid h24
  have H26 := Lib.hid h26
  have H19 := Lib.hid h19
  have HBL := Lib.hid hbl
  have HD1 := Lib.hid hd1
  have HDOT := Lib.hid hdot
  have HEND := Lib.hid hend
  have HCE := Lib.hid hce
  have H25 := Lib.hid h25
  have HC1 := Lib.hid (kp_cell hk0 hm1 (by simp))
  have HC2 := Lib.hid (kp_cell hk0 hm2 (by simp))
  have HF1 := Lib.hid (kp_frozen hk0 hm1 hmf1 (by simp))
  have HF2 := Lib.hid (kp_frozen hk0 hm2 hmf2 (by simp))
  have HQ0 := Lib.hid q0
  have HQ1 := Lib.hid q1
  have HQ2 := Lib.hid q2
  have HFA1 := Lib.hid hf1
  have HFA2 := Lib.hid hf2
  have HNE := Lib.hid hne
  have hu541 := rdr_u h
  obtain ⟨c18, f18⟩ := at_ hr0.pb 18 hr0.at18
  obtain ⟨ub, hub, HUB2⟩ : ∃ b : Bool, decide ((u : Int) < 1) = b ∧ Hid (b = false → 1 ≤ u) := ⟨_, rfl, Lib.hid fun h => by simp at h; omega⟩
  clear h h24 h26 h19 hbl hd1 hdot hend hce h25 hr0 hk0 hr hb0 hm1 hm2 hmf1 hmf2 q0 q1 q2 hf1 hf2 hne hW
  go_enter Tryd.func64, Tryd.ntmps64
  go_upto_region 1 with fail
  rw [HWA.out]
  go_cut [18] from 9 to 18 (fun s18 wx => s18 = .bool false ∧ Moved k p c 0 mi mc L (k.bs p) wa wx)
  case first =>
    cases ub with
    | false =>
      have hu1 := HUB2.out rfl
      go_wp2_with fail
      go_meet
      case rel => exact ⟨rfl, ⟨⟨u, bp, bl, L, HR0.out, hu1, H24.out, H26.out, ⟨z, H19.out⟩, fun _ _ _ _ _ => rfl⟩, Kp.refl _ _⟩⟩
    | true =>
      go_wp2_with fail
      refine (ub_any k p c u bp bl 1 L wa HRR.out HR0.out (by omega) (by omega) hg0).mono ?_
      rintro e w1 ⟨rfl, hupd⟩
      have HU := Lib.hid (moved_upd (i := 0) hupd H24.out H26.out H19.out (fun _ _ _ _ _ => rfl) (Kp.refl (k.bs p) _) (fun _ h => h))
      clear hupd
      go_wp2_with fail
      go_meet
      case rel => exact ⟨rfl, HU.out⟩
  case rest =>
    obtain ⟨rfl, hst⟩ := hcut
    have HST := Lib.hid hst
    clear hst hub c18 f18 HR0 H24 H26 H19
    go_wp2_with fail
    go_loopg [] s (fun g wr => ∃ i : Nat, i ≤ s ∧ g = s - i ∧ Moved k p c i mi mc L (k.bs p) wa wr)
    case atStart => exact ⟨0, Nat.zero_le _, rfl, HST.out⟩
    obtain ⟨i, hin, hgk, ⟨⟨u1, bp1, bl1, L1, hr1, hu1, h241, h261, ⟨z1, h191⟩, ho1⟩, hk1⟩⟩ := hrel
    have HGK := Lib.hid hgk
    have hrd1 := hr1.ready 1 hu1
    have hsm1 := hr1.small
    have hge1 := adv_ge k.T (c + i) 1
    have hby := hr1.byte 0 (by omega)
    rw [Nat.add_zero, Nat.add_zero] at hby
    obtain ⟨x, HX⟩ : ∃ x, Hid (S k.T (c + i) = x) := ⟨_, rfl⟩
    rw [HX.out] at hby
    have hdc : ∀ N, Calls Tryd.prog 102 #[.slice (some ⟨k.q, 0, none⟩) bl1 1536, .int .i64 bp1] (wr.drewN N) fun e w' => e = .returned (.bool (isBlank x)) ∧ w' = wr.drewN N := fun N => blank_any k.q bp1 bl1 1536 x (wr.drewN N) (by omega) (by omega) hby
    obtain ⟨c16, f16⟩ := at_ hr1.pb 16 hr1.at16
    obtain ⟨c17, f17⟩ := at_ hr1.pb 17 hr1.at17
    have j1 : (bp1 : Int) < (bl1 : Int) := by omega
    have HR1 := Lib.hid hr1
    have H241 := Lib.hid h241
    have H261 := Lib.hid h261
    have H191 := Lib.hid h191
    have HO1 := Lib.hid ho1
    have HK1 := Lib.hid hk1
    have hsz1 := hk1.size
    have hv541 := rdr_u hr1
    have hg1 : 2 < wr.heap.size := by omega
    by_cases hlt : i < s
    · have hxb : x = 32 := by rw [← HX.out]; exact HBL.out i hlt
      rw [show isBlank x = true by rw [hxb]; rfl] at hdc
      have HDC := Lib.hid hdc
      have HXB := Lib.hid hxb
      obtain ⟨v, rfl⟩ : ∃ v, u1 = v + 1 := ⟨u1 - 1, by omega⟩
      clear hr1 h241 h261 h191 ho1 hk1 hdc hby hrd1 hge1 hgk hxb
      go_wp2_with fail
      go_quiet ((go_at_call 102; exact Calls.quiet_of_same (HDC.out _)))
      go_wp2_with fail
      refine (skip_any k p (c + i) v bp1 bl1 (mi + i) (mc + i) z1 L1 _ (HR1.out.drewN _) H241.out H261.out H191.out (by omega) (by omega) (by omega)).mono ?_
      rintro e w2 ⟨rfl, hsk⟩
      obtain ⟨L2, hr2, h242, h262, ⟨z2, h192⟩, ho2⟩ := hsk.ex
      have hnx : nx k.T (c + i) = c + (i + 1) := by unfold nx; rw [HX.out, HXB.out]; rfl
      rw [hnx] at hr2
      have hkp2 : Kp [p] wr w2 := ((Kp.refl _ wr).drewN _).trans hsk.kp
      have hk2 : Kp (k.bs p) wa w2 := HK1.out.trans (kp_sub hkp2)
      have hs2 : w2.heap.size = wr.heap.size := hsk.size
      have ho3 : ∀ j, rdOff j → j ≠ 19 → j ≠ 24 → j ≠ 26 → L2[j]? = L[j]? := fun j j1 j2 j3 j4 => by
        rw [ho2 j (by unfold rdOff at j1; omega) (by unfold rdOff at j1; omega) j2 j3 j4]
        exact HO1.out j j1 j2 j3 j4
      have hg2 : 2 < w2.heap.size := by omega
      obtain ⟨c18, f18⟩ := at_ hr2.pb 18 hr2.at18
      have HR2 := Lib.hid hr2
      have H242 := Lib.hid h242
      have H262 := Lib.hid h262
      have H192 := Lib.hid h192
      have HO3 := Lib.hid ho3
      have HK2 := Lib.hid hk2
      clear hsk hr2 h242 h262 h192 ho2 ho3 hnx hkp2 hk2 c16 c17 f16 f17
      by_cases hv0 : v = 0
      · have hub : decide ((v : Int) < 1) = true := by simp; omega
        clear hv0
        go_wp2_with fail
        refine (ub_any k p (c + (i + 1)) v _ bl1 1 L2 w2 HRR.out HR2.out (by omega) (by omega) hg2).mono ?_
        rintro e w3 ⟨rfl, hupd⟩
        have HU := Lib.hid (moved_upd (i := i + 1) hupd H242.out H262.out H192.out HO3.out HK2.out (fun _ h => h))
        clear hupd
        go_wp2_with fail
        go_roundg (s - (i + 1))
        case measure => have := HGK.out; omega
        case rel => exact ⟨i + 1, by omega, rfl, HU.out⟩
      · have hub : decide ((v : Int) < 1) = false := by simp; omega
        have HV := Lib.hid hv0
        clear hv0
        go_wp2_with fail
        go_roundg (s - (i + 1))
        case measure => have := HGK.out; omega
        case rel => exact ⟨i + 1, by omega, rfl, ⟨⟨v, _, bl1, L2, HR2.out, by have := HV.out; omega, H242.out, H262.out, ⟨z2, H192.out⟩, HO3.out⟩, HK2.out⟩⟩
    · obtain rfl : i = s := by omega
      have hxd := HD1.out 0 (by omega)
      rw [Nat.add_zero, HX.out] at hxd
      obtain ⟨x1, x2, x3⟩ := digit_cw hxd
      rw [show isBlank x = false by unfold isBlank; rw [Bool.or_eq_false_iff, beq_eq_false_iff_ne, beq_eq_false_iff_ne]; omega] at hdc
      have HDC := Lib.hid hdc
      have hWb : w.heap.size ∉ k.bs p := fun hh => HW.out (by simp [hh])
      have a0 := kp_cell hk1 HQ0.out hWb
      have a1 := kp_cell hk1 HQ1.out hWb
      have a2 := kp_cell hk1 HQ2.out hWb
      have mc1 := kp_cell hk1 HC1.out HFA1.out.1
      have mf1 := kp_frozen hk1 HC1.out HF1.out HFA1.out.1
      have mc2 := kp_cell hk1 HC2.out HFA2.out.1
      have mf2 := kp_frozen hk1 HC2.out HF2.out HFA2.out.1
      have HM1 := Lib.hid mc1
      have HMF1 := Lib.hid mf1
      have HM2 := Lib.hid mc2
      have HMF2 := Lib.hid mf2
      have HA0 := Lib.hid a0
      have HA1 := Lib.hid a1
      have HA2 := Lib.hid a2
      clear hr1 h241 h261 h191 ho1 hk1 hdc hby hrd1 hge1 hgk hxd hWb mc1 mf1 mc2 mf2
      go_wp2_with fail
      go_quiet ((go_at_call 102; exact Calls.quiet_of_same (HDC.out _)))
      go_wp2_with fail
      refine (num_any k p (c + i) u1 bp1 bl1 (mi + i) 0 (mc + i) n1 m1 z1 v1 s0 s1 s2 L1 _ HRR.out (HR1.out.drewN _) H241.out H261.out H191.out (by omega) (by omega) hn1 hn2 HD1.out HEND.out HM1.out HMF1.out HFA1.out hg1).mono ?_
      rintro e w2 ⟨rfl, hmv, hn1c, hn1f⟩
      obtain ⟨⟨u2, bp2, bl2, L2, hr2, hu2, h242, h262, ⟨z2, h192⟩, ho2⟩, hk2⟩ := hmv
      have hrd2 := hr2.ready 1 hu2
      have hsm2 := hr2.small
      have hge2 := adv_ge k.T (c + i + n1) 1
      have hby2 := hr2.byte 0 (by omega)
      rw [Nat.add_zero, Nat.add_zero] at hby2
      obtain ⟨y, HY⟩ : ∃ y, Hid (S k.T (c + i + n1) = y) := ⟨_, rfl⟩
      rw [HY.out] at hby2
      have hy46 : (y == 46) = false := by rw [beq_eq_false_iff_ne, ← HY.out]; exact HDOT.out
      have hv542 := rdr_u hr2
      obtain ⟨v, rfl⟩ : ∃ v, u2 = v + 1 := ⟨u2 - 1, by omega⟩
      have hkw2 : Kp (m1 :: k.bs p) wr w2 := ((Kp.refl _ wr).drewN _).trans hk2
      have hg2 : 2 < w2.heap.size := by have := hkw2.size; omega
      have hn2m : m2 ∉ m1 :: k.bs p := by
        have q1 := HFA2.out.1
        have q2 := HNE.out
        simp
        exact ⟨fun h => q2 h.symm, q1⟩
      have hwm : w.heap.size ∉ m1 :: k.bs p := fun hh => HW.out (by simp at hh ⊢; rcases hh with h | h; exact .inl h; exact .inr (.inr h))
      have b0 := kp_cell hkw2 HA0.out hwm
      have b1 := kp_cell hkw2 HA1.out hwm
      have b2 := kp_cell hkw2 HA2.out hwm
      have mc2 := kp_cell hkw2 HM2.out hn2m
      have mf2 := kp_frozen hkw2 HM2.out HMF2.out hn2m
      obtain ⟨d16, e16⟩ := at_ hr2.pb 16 hr2.at16
      obtain ⟨d17, e17⟩ := at_ hr2.pb 17 hr2.at17
      have j2 : (bp2 : Int) < (bl2 : Int) := by omega
      have HR2 := Lib.hid hr2
      have H242 := Lib.hid h242
      have H262 := Lib.hid h262
      have H192 := Lib.hid h192
      have HO2 := Lib.hid ho2
      have HK2 := Lib.hid hkw2
      have HN1C := Lib.hid hn1c
      have HB0 := Lib.hid b0
      have HB1 := Lib.hid b1
      have HB2 := Lib.hid b2
      have HP2 := Lib.hid mc2
      have HPF2 := Lib.hid mf2
      clear hr2 h242 h262 h192 ho2 hk2 hkw2 hn1c hn1f mc2 mf2 hn2m hwm hrd2 hge2 a0 a1 a2 c16 f16 c17 f17
      go_wp2_with fail
      go_quiet (fail)
      go_wp2_with fail
      have oo : ∀ j, rdOff j → j ≠ 19 → j ≠ 24 → j ≠ 26 → L2[j]? = L[j]? := fun j j1 j2 j3 j4 => (HO2.out j j1 j2 j3 j4).trans (HO1.out j j1 j2 j3 j4)
      have of : ∀ j, j ≤ 10 ∨ j = 25 → L2[j]? = L[j]? := fun j hj => oo j (by unfold rdOff; omega) (by omega) (by omega) (by omega)
      have hc2 : Cells L2 := by
        have q := HCE.out
        refine ⟨HR2.out.plen, ?_, ?_, ?_, ?_, ?_, ?_, ?_, ?_, ?_, ?_, ?_⟩
        · rw [of 0 (by omega)]; exact q.c0
        · rw [of 1 (by omega)]; exact q.c1
        · rw [of 2 (by omega)]; exact q.c2
        · rw [of 3 (by omega)]; exact q.c3
        · rw [of 4 (by omega)]; exact q.c4
        · rw [of 5 (by omega)]; exact q.c5
        · rw [of 6 (by omega)]; exact q.c6
        · rw [of 7 (by omega)]; exact q.c7
        · rw [of 8 (by omega)]; exact q.c8
        · rw [of 9 (by omega)]; exact q.c9
        · rw [of 10 (by omega)]; exact q.c10
      obtain ⟨y1, hy1⟩ := H25.out
      refine (fault_any p _ _ s0 s1 s2 _ y1 _ L2 _ (HR2.out.pb.drewN _) hc2 H242.out ((of 25 (by omega)).trans hy1) H262.out).mono ?_
      rintro e w3 ⟨rfl, L3, hb3, hc3, h03, hk3⟩
      have HB3 := Lib.hid hb3
      have HC3 := Lib.hid hc3
      have H03 := Lib.hid h03
      have HK3 := Lib.hid hk3
      clear hb3 hc3 h03 hk3 hc2
      go_wp2_with fail
      go_ret
      have s1 : Kp (m1 :: m2 :: k.bs p) w wa := HK0.out.mono (fun b hb => by simp at hb)
      have s2 : Kp (m1 :: m2 :: k.bs p) wa wr := HK1.out.mono (fun b hb => List.mem_cons_of_mem _ (List.mem_cons_of_mem _ hb))
      have s3 : Kp (m1 :: m2 :: k.bs p) wr w2 := HK2.out.mono (fun b hb => by simp at hb ⊢; rcases hb with h | h; exact .inl h; exact .inr (.inr h))
      have s4 : Kp (m1 :: m2 :: k.bs p) w2 w3 := (((Kp.refl _ w2).drewN _).trans HK3.out).mono (fun b hb => by simp at hb; subst hb; exact List.mem_cons_of_mem _ (List.mem_cons_of_mem _ (k.mp b)))
      exact ⟨rfl, L3, HB3.out, HC3.out, H03.out, ((s1.trans s2).trans s3).trans s4⟩
end Go.Proofs.YtocbbekciphjgaaDoor.Sc
/- ScG -/
/- A parser as it starts is a reader at its text's beginning; a parser's mark; the door to the version (ZzScanVersion). -/
namespace Go.Proofs.YtocbbekciphjgaaDoor.Sc
open Go.RowKit Go.Proofs.YtocbbekciphjgaaDoor.Rdp Go.Proofs.YtocbbekciphjgaaDoor.Pa
set_option linter.unusedVariables false
set_option linter.unusedSimpArgs false
theorem pStart_len (T r q : Value) : (pStart T r q).length = 52 := by
  unfold pStart
  simp only [List.length_set, Array.length_toList]
  exact pInit_size r q
theorem pInit_at (r q : Value) : (pInit r q).toList[15]? = some (.bool false) ∧ (pInit r q).toList[20]? = some r ∧ (pInit r q).toList[21]? = some (.int .i64 0) ∧ (pInit r q).toList[22]? = some (.int .i64 0) ∧ (pInit r q).toList[23]? = some (.int .i64 0) := by
  refine ⟨?_, ?_, ?_, ?_, ?_⟩ <;> kernel_rfl
/-- What a parser holds as it starts. -/
structure AtStart (L : List Value) : Prop where
  a19 : L[19]? = some (.int .i64 0)
  a24 : L[24]? = some (.int .i64 0)
  a25 : L[25]? = some (.int .i64 0)
  a26 : L[26]? = some (.int .i64 0)
  cells : Cells L
theorem pInit_ats (r q : Value) : (pInit r q).toList[16]? = some q ∧ (pInit r q).toList[17]? = some (.int .i64 0) ∧ (pInit r q).toList[18]? = some (.int .i64 0) ∧ (pInit r q).toList[19]? = some (.int .i64 0) ∧ (pInit r q).toList[24]? = some (.int .i64 0) ∧ (pInit r q).toList[25]? = some (.int .i64 0) ∧ (pInit r q).toList[26]? = some (.int .i64 0) := by
  refine ⟨?_, ?_, ?_, ?_, ?_, ?_, ?_⟩ <;> kernel_rfl
theorem pInit_lo (r q : Value) : (pInit r q).toList[0]? = some (.int .i64 0) ∧ (pInit r q).toList[1]? = some (.string ⟨#[]⟩) ∧ (pInit r q).toList[2]? = some (.int .i64 0) ∧ (pInit r q).toList[3]? = some (.int .i64 0) ∧ (pInit r q).toList[4]? = some (.int .i64 0) ∧ (pInit r q).toList[5]? = some (.int .i64 0) ∧ (pInit r q).toList[6]? = some (.int .i64 0) ∧ (pInit r q).toList[7]? = some (.string ⟨#[]⟩) ∧ (pInit r q).toList[8]? = some (.int .i64 0) ∧ (pInit r q).toList[9]? = some (.int .i64 0) ∧ (pInit r q).toList[10]? = some (.int .i64 0) := by
  refine ⟨?_, ?_, ?_, ?_, ?_, ?_, ?_, ?_, ?_, ?_, ?_⟩ <;> kernel_rfl
theorem pStart_no (T r q : Value) : ∀ j, j ≠ 11 → j ≠ 13 → j ≠ 14 → (pStart T r q)[j]? = (pInit r q).toList[j]? := fun j h1 h2 h3 => by
  unfold pStart
  rw [List.getElem?_set_ne (Ne.symm h3), List.getElem?_set_ne (Ne.symm h2), List.getElem?_set_ne (Ne.symm h1)]
theorem pStart_at (T r q : Value) : AtStart (pStart T r q) := by
  obtain ⟨i16, i17, i18, i19, i24, i25, i26⟩ := pInit_ats r q
  obtain ⟨i0, i1, i2, i3, i4, i5, i6, i7, i8, i9, i10⟩ := pInit_lo r q
  have no := pStart_no T r q
  refine ⟨(no 19 (by omega) (by omega) (by omega)).trans i19, (no 24 (by omega) (by omega) (by omega)).trans i24, (no 25 (by omega) (by omega) (by omega)).trans i25, (no 26 (by omega) (by omega) (by omega)).trans i26, ⟨pStart_len T r q, ⟨_, (no 0 (by omega) (by omega) (by omega)).trans i0⟩, ⟨_, (no 1 (by omega) (by omega) (by omega)).trans i1⟩, ⟨_, (no 2 (by omega) (by omega) (by omega)).trans i2⟩, ⟨_, (no 3 (by omega) (by omega) (by omega)).trans i3⟩, ⟨_, (no 4 (by omega) (by omega) (by omega)).trans i4⟩, ⟨_, (no 5 (by omega) (by omega) (by omega)).trans i5⟩, ⟨_, (no 6 (by omega) (by omega) (by omega)).trans i6⟩, ⟨_, (no 7 (by omega) (by omega) (by omega)).trans i7⟩, ⟨_, (no 8 (by omega) (by omega) (by omega)).trans i8⟩, ⟨_, (no 9 (by omega) (by omega) (by omega)).trans i9⟩, ⟨_, (no 10 (by omega) (by omega) (by omega)).trans i10⟩⟩⟩
/-- A reader at its text's beginning. -/
theorem start_rdr (A : Option Addr) (T : List Int) (ci : Nat) (E : Value) (w w1 : World) (p r q : Nat) (hE : w.cell? ⟨2, 0, none⟩ = some E) (hEof : IsEof E) (hin : In w A T) (hG : Rdp.Good T) (htl : T.length ≤ 2147483647) (htc : T.length ≤ ci) (hp : w.heap.size ≤ p) (hpr : p < r) (hpq : p < q) (hrq : r ≠ q) (hbr : Bk w1 r 5 (zeros 512)) (hbq : Bk w1 q 5 (zeros 1536))
    (hbp : Bk w1 p 120 (pStart (.slice A T.length ci) (.slice (some ⟨r, 0, none⟩) 0 512) (.slice (some ⟨q, 0, none⟩) 0 1536))) (hbel : Below w.heap.size w w1) :
    Rdr ⟨r, q, A, T, ci, E⟩ p 0 0 0 0 (pStart (.slice A T.length ci) (.slice (some ⟨r, 0, none⟩) 0 512) (.slice (some ⟨q, 0, none⟩) 0 1536)) w1 := by
  have hg : 2 < w.heap.size := World.block_lt_of_cell? w ⟨2, 0, none⟩ hE
  have hl := pStart_len (.slice A T.length ci) (.slice (some ⟨r, 0, none⟩) 0 512) (.slice (some ⟨q, 0, none⟩) 0 1536)
  have hi := pInit_size (.slice (some ⟨r, 0, none⟩) 0 512) (.slice (some ⟨q, 0, none⟩) 0 1536)
  obtain ⟨i15, i20, i21, i22, i23⟩ := pInit_at (.slice (some ⟨r, 0, none⟩) 0 512) (.slice (some ⟨q, 0, none⟩) 0 1536)
  obtain ⟨i16, i17, i18, i19, i24, i25, i26⟩ := pInit_ats (.slice (some ⟨r, 0, none⟩) 0 512) (.slice (some ⟨q, 0, none⟩) 0 1536)
  have no := pStart_no (.slice A T.length ci) (.slice (some ⟨r, 0, none⟩) 0 512) (.slice (some ⟨q, 0, none⟩) 0 1536)
  have hin1 : In w1 A T := by
    rcases hin with h | ⟨b, o, e, h1, h2⟩
    · exact .inl h
    · exact .inr ⟨b, o, e, by have := hbel.size; omega, fun i hi => by rw [hbel.cell (p := ⟨b, o + i, none⟩) h1]; exact h2 i hi⟩
  have hA1 : ∀ b o, A = some ⟨b, o, none⟩ → 0 < T.length → b ∉ [p, r, q] := fun b o e h0 => by
    rcases hin with h | ⟨b', o', e', h1, _⟩
    · omega
    · rw [e] at e'
      simp only [Option.some.injEq, Addr.mk.injEq] at e'
      simp
      omega
  refine ⟨⟨by show p ≠ r; omega, by show p ≠ q; omega, hrq, by unfold Kn.bs; simp; omega, hA1, hEof, hG, htl, htc⟩, (no 16 (by omega) (by omega) (by omega)).trans i16, fun _ => .zero, 0, 0, 0, false, zeros 512, zeros 1536, false, ⟨hbp, hl, hbr, by unfold zeros; exact List.length_replicate, hbq, by unfold zeros; exact List.length_replicate, ?_, hin1, ?_, ?_, ?_, ?_, (no 15 (by omega) (by omega) (by omega)).trans i15, (no 17 (by omega) (by omega) (by omega)).trans i17, (no 18 (by omega) (by omega) (by omega)).trans i18, (no 20 (by omega) (by omega) (by omega)).trans i20, (no 21 (by omega) (by omega) (by omega)).trans i21, (no 23 (by omega) (by omega) (by omega)).trans i23, Nat.zero_le _, by omega, Nat.le_refl _, by omega, Nat.le_refl _, by omega, fun i hi => by omega, fun j hj => by omega⟩, (no 22 (by omega) (by omega) (by omega)).trans i22, .inl ⟨⟨rfl, rfl, .zero⟩, rfl, fun _ => ⟨rfl, rfl, rfl, rfl, rfl, rfl, rfl⟩⟩⟩
  · intro i hi
    refine ⟨0, ?_⟩
    unfold zeros
    rw [List.getElem?_replicate, if_pos hi]
    rfl
  · rw [hbel.cell (p := ⟨2, 0, none⟩) hg]; exact hE
  · unfold pStart; rw [List.getElem?_set_ne (by omega), List.getElem?_set_ne (by omega), List.getElem?_set_self (by rw [Array.length_toList]; omega)]
  · unfold pStart; rw [List.getElem?_set_ne (by omega), List.getElem?_set_self (by rw [List.length_set, Array.length_toList]; omega)]
  · unfold pStart; rw [List.getElem?_set_self (by rw [List.length_set, List.length_set, Array.length_toList]; omega)]; rfl
set_option maxHeartbeats 1000000 in
theorem pmark_any (p : Nat) (L : List Value) (y0 y1 y2 : Int) (w : World) (h : Bk w p 120 L) (h24 : L[24]? = some (.int .i64 y0)) (h25 : L[25]? = some (.int .i64 y1)) (h26 : L[26]? = some (.int .i64 y2)) :
    Calls Tryd.prog 37 #[.pointer (some ⟨p, 0, none⟩)] w fun e w' => e = .returned (.agg #[.int .i64 y0, .int .i64 y1, .int .i64 y2]) ∧ Below w.heap.size w w' := by
  have hlt := h.lt
  have n1 : ¬ p = w.heap.size := by omega
  have n2 : ¬ w.heap.size = p := by omega
  obtain ⟨c24, f24⟩ := at_ h 24 h24
  obtain ⟨c25, f25⟩ := at_ h 25 h25
  obtain ⟨c26, f26⟩ := at_ h 26 h26
  clear h h24 h25 h26
  go_enter Tryd.func37, Tryd.ntmps37
  go_wp2_with fail
  refine (zmark_any _ _ _ _).mono ?_
  rintro e w1 ⟨rfl, hb⟩
  have hbk : Bk w1 w.heap.size 70 (tri 0 0 0) := (Bk.new w (tri 0 0 0) 70).kp (Kp.of_below (ps := []) hb) (by simp)
  obtain ⟨q0, g0⟩ := at_ hbk 0 rfl
  obtain ⟨q1, g1⟩ := at_ hbk 1 rfl
  obtain ⟨q2, g2⟩ := at_ hbk 2 rfl
  have hb3 := ((hbk.set 0 (.int .i64 y0)).set 1 (.int .i64 y1)).set 2 (.int .i64 y2)
  have r0 := (at_ hb3 0 rfl).1
  have r1 := (at_ hb3 1 rfl).1
  have r2 := (at_ hb3 2 rfl).1
  have HR0 := Lib.hid r0
  have HR1 := Lib.hid r1
  have HR2 := Lib.hid r2
  clear hbk hb3 r0 r1 r2
  have HB := Lib.hid hb
  clear hb
  go_wp2_with fail
  (try simp only [Exit.inBlock, Exit.then])
  refine bodyPost_ret (by simp [results, Tryd.results37, HR0.out, HR1.out, HR2.out, go_sem]; try rfl) rfl ?_
  have h1 : Below w.heap.size w w1 := ((Below.refl _ _).alloc (Nat.le_refl _) _).trans (HB.out.mono (by simp))
  exact ⟨rfl, ((h1.setCell (p := ⟨w.heap.size, 0, none⟩) (Nat.le_refl _) _).setCell (p := ⟨w.heap.size, 1, none⟩) (Nat.le_refl _) _).setCell (p := ⟨w.heap.size, 2, none⟩) (Nat.le_refl _) _⟩
set_option maxHeartbeats 1000000 in
theorem zver_any (p : Nat) (m1 m2 : Value) (b : Bool) (L : List Value) (y0 y1 y2 : Int) (w : World) (Q : World → Prop) (h : Bk w p 120 L) (h24 : L[24]? = some (.int .i64 y0)) (h25 : L[25]? = some (.int .i64 y1)) (h26 : L[26]? = some (.int .i64 y2))
    (hc : Calls Tryd.prog 64 #[.pointer (some ⟨p, 0, none⟩), .agg #[.int .i64 y0, .int .i64 y1, .int .i64 y2], m1, m2] w fun e w' => e = .returned (.bool b) ∧ Q w') :
    Calls Tryd.prog 34 #[.pointer (some ⟨p, 0, none⟩), m1, m2] w fun e w' => e = .returned (.bool b) ∧ Q w' := by
  obtain ⟨c24, f24⟩ := at_ h 24 h24
  obtain ⟨c25, f25⟩ := at_ h 25 h25
  obtain ⟨c26, f26⟩ := at_ h 26 h26
  have HC := Lib.hid hc
  clear h h24 h25 h26 hc
  go_enter Tryd.func34, Tryd.ntmps34
  go_wp2_with fail
  refine HC.out.mono ?_
  rintro e w1 ⟨rfl, hq⟩
  have HQ := Lib.hid hq
  clear hq
  go_wp2_with fail
  go_returns
  exact ⟨rfl, HQ.out⟩
end Go.Proofs.YtocbbekciphjgaaDoor.Sc
/- QxB -/
/- Where there was a fault (impl.scanned): the walk. -/
namespace Go.Proofs.YtocbbekciphjgaaDoor.Qd
open Go.RowKit Go.Proofs.YtocbbekciphjgaaDoor.Rdp Go.Proofs.YtocbbekciphjgaaDoor.Pa Go.Proofs.YtocbbekciphjgaaDoor.Sc
set_option linter.unusedVariables false
set_option linter.unusedSimpArgs false
set_option maxHeartbeats 8000000 in
set_option maxRecDepth 100000 in
theorem scanned_bad (p : Nat) (vt : Value) (L : List Value) (w0 : World) (h : Bk w0 p 120 L) (hc : Sc.Cells L) (h0 : L[0]? = some (.int .i64 3)) :
    Calls Tryd.prog 38 #[.pointer (some ⟨p, 0, none⟩), vt, .bool false] w0 fun e w' => (∃ a0 a1 a2 b0 b1 b2 z2 z3 : Int, e = .returned (.tuple #[.agg (full 0 0 0 0 0 0 0 0 [] [] [] 0 0 0).toArray, .agg (nine 2 a0 a1 a2 b0 b1 b2 z2 z3).toArray])) ∧ Below w0.heap.size w0 w' := by
  obtain ⟨wa, HWA⟩ : ∃ wa : World, Hid (((w0.alloc (.cells (full 0 0 0 0 0 0 0 0 [] [] [] 0 0 0).toArray 37)).alloc (.cells (nine 0 0 0 0 0 0 0 0 0).toArray 31)) = wa) := ⟨_, rfl⟩
  have hb6 : Bk wa w0.heap.size 37 (full 0 0 0 0 0 0 0 0 [] [] [] 0 0 0) := by rw [← HWA.out]; exact (Bk.new _ _ _).alloc _
  have hb7 : Bk wa (w0.heap.size + 1) 31 (nine 0 0 0 0 0 0 0 0 0) := by
    have := Bk.new (w0.alloc (.cells (full 0 0 0 0 0 0 0 0 [] [] [] 0 0 0).toArray 37)) (nine 0 0 0 0 0 0 0 0 0) 31
    simp only [World.size_alloc] at this
    rw [← HWA.out]
    exact this
  have hb0 : Below w0.heap.size w0 wa := by rw [← HWA.out]; exact ((Below.refl _ _).alloc (Nat.le_refl _) _).alloc (by simp) _
  have hsz : wa.heap.size = w0.heap.size + 2 := by rw [← HWA.out]; simp
  have hp : Bk wa p 120 L := by rw [← HWA.out]; exact (h.alloc _).alloc _
  have HB6 := Lib.hid hb6
  have HB7 := Lib.hid hb7
  have HB0 := Lib.hid hb0
  have HP := Lib.hid hp
  have HC := Lib.hid hc
  have H0 := Lib.hid h0
  clear h hb6 hb7 hb0 hp hc h0
  go_enter Tryd.func38, Tryd.ntmps38
  go_upto_region 1 with fail
  rw [show (w0.alloc (.cells #[.int .i64 0, .int .i64 0, .int .i64 0, .int .i64 0, .int .i64 0, .int .i64 0, .int .i64 0, .string ⟨#[]⟩, .string ⟨#[]⟩, .string ⟨#[]⟩, .int .i64 0, .int .i64 0, .int .i64 0, .int .i64 0] 37)).alloc (.cells #[.int .i64 0, .int .i64 0, .int .i64 0, .int .i64 0, .int .i64 0, .int .i64 0, .int .i64 0, .int .i64 0, .int .i64 0] 31) = wa from HWA.out]
  go_wp2_with fail
  refine (fault_full p L wa HP.out HC.out H0.out).mono ?_
  rintro e w1 ⟨⟨z2, z3, a0, a1, a2, b0, b1, b2, rfl⟩, hb1⟩
  have hk1 : Kp [] wa w1 := Kp.of_below hb1
  have h6 := HB6.out.kp hk1 (by simp)
  have h7 := HB7.out.kp hk1 (by simp)
  have HBF := Lib.hid (HB0.out.trans (hb1.mono (by omega)))
  obtain ⟨e0, f0⟩ := at_ h6 0 rfl
  obtain ⟨e1, f1⟩ := at_ h6 1 rfl
  obtain ⟨e2, f2⟩ := at_ h6 2 rfl
  obtain ⟨e3, f3⟩ := at_ h6 3 rfl
  obtain ⟨e4, f4⟩ := at_ h6 4 rfl
  obtain ⟨e5, f5⟩ := at_ h6 5 rfl
  obtain ⟨e6, f6⟩ := at_ h6 6 rfl
  obtain ⟨e7, f7⟩ := at_ h6 7 rfl
  obtain ⟨e8, f8⟩ := at_ h6 8 rfl
  obtain ⟨e9, f9⟩ := at_ h6 9 rfl
  obtain ⟨e10, f10⟩ := at_ h6 10 rfl
  obtain ⟨e11, f11⟩ := at_ h6 11 rfl
  obtain ⟨e12, f12⟩ := at_ h6 12 rfl
  obtain ⟨e13, f13⟩ := at_ h6 13 rfl
  obtain ⟨c0, g0⟩ := at_ h7 0 rfl
  obtain ⟨c1, g1⟩ := at_ h7 1 rfl
  obtain ⟨c2, g2⟩ := at_ h7 2 rfl
  obtain ⟨c3, g3⟩ := at_ h7 3 rfl
  obtain ⟨c4, g4⟩ := at_ h7 4 rfl
  obtain ⟨c5, g5⟩ := at_ h7 5 rfl
  obtain ⟨c6, g6⟩ := at_ h7 6 rfl
  obtain ⟨c7, g7⟩ := at_ h7 7 rfl
  obtain ⟨c8, g8⟩ := at_ h7 8 rfl
  have H6 := Lib.hid h6
  have H7 := Lib.hid h7
  clear h6 h7 hb1 hk1 HB6 HB7 HB0 HP HC H0 HWA
  (try unfold full)
  (try unfold nine)
  go_wp2_with fail
  clear e0 e1 e2 e3 e4 e5 e6 e7 e8 e9 e10 e11 e12 e13 f0 f1 f2 f3 f4 f5 f6 f7 f8 f9 f10 f11 f12 f13 c0 c1 c2 c3 c4 c5 c6 c7 c8 g0 g1 g2 g3 g4 g5 g6 g7 g8
  have ne1 : w0.heap.size ≠ w0.heap.size + 1 := by omega
  have ne2 : w0.heap.size + 1 ≠ w0.heap.size := by omega
  have h4 := (((((((((((((((((((((((H6.out.set 0 (.int .i64 0)).set 1 (.int .i64 0)).set 2 (.int .i64 0)).set 3 (.int .i64 0)).set 4 (.int .i64 0)).set 5 (.int .i64 0)).set 6 (.int .i64 0)).set 7 (.string ⟨#[]⟩)).set 8 (.string ⟨#[]⟩)).set 9 (.string ⟨#[]⟩)).set 10 (.int .i64 0)).set 11 (.int .i64 0)).set 12 (.int .i64 0)).set 13 (.int .i64 0)).other (w0.heap.size + 1) 0 (.int .i64 2) ne1).other (w0.heap.size + 1) 1 (.int .i64 a0) ne1).other (w0.heap.size + 1) 2 (.int .i64 a1) ne1).other (w0.heap.size + 1) 3 (.int .i64 a2) ne1).other (w0.heap.size + 1) 4 (.int .i64 b0) ne1).other (w0.heap.size + 1) 5 (.int .i64 b1) ne1).other (w0.heap.size + 1) 6 (.int .i64 b2) ne1).other (w0.heap.size + 1) 7 (.int .i64 z2) ne1).other (w0.heap.size + 1) 8 (.int .i64 z3) ne1)
  have h5 := (((((((((((((((((((((((H7.out.other w0.heap.size 0 (.int .i64 0) ne2).other w0.heap.size 1 (.int .i64 0) ne2).other w0.heap.size 2 (.int .i64 0) ne2).other w0.heap.size 3 (.int .i64 0) ne2).other w0.heap.size 4 (.int .i64 0) ne2).other w0.heap.size 5 (.int .i64 0) ne2).other w0.heap.size 6 (.int .i64 0) ne2).other w0.heap.size 7 (.string ⟨#[]⟩) ne2).other w0.heap.size 8 (.string ⟨#[]⟩) ne2).other w0.heap.size 9 (.string ⟨#[]⟩) ne2).other w0.heap.size 10 (.int .i64 0) ne2).other w0.heap.size 11 (.int .i64 0) ne2).other w0.heap.size 12 (.int .i64 0) ne2).other w0.heap.size 13 (.int .i64 0) ne2).set 0 (.int .i64 2)).set 1 (.int .i64 a0)).set 2 (.int .i64 a1)).set 3 (.int .i64 a2)).set 4 (.int .i64 b0)).set 5 (.int .i64 b1)).set 6 (.int .i64 b2)).set 7 (.int .i64 z2)).set 8 (.int .i64 z3))
  have hbf := (((((((((((((((((((((((HBF.out.setCell (p := ⟨w0.heap.size, 0, none⟩) (by simp) (.int .i64 0)).setCell (p := ⟨w0.heap.size, 1, none⟩) (by simp) (.int .i64 0)).setCell (p := ⟨w0.heap.size, 2, none⟩) (by simp) (.int .i64 0)).setCell (p := ⟨w0.heap.size, 3, none⟩) (by simp) (.int .i64 0)).setCell (p := ⟨w0.heap.size, 4, none⟩) (by simp) (.int .i64 0)).setCell (p := ⟨w0.heap.size, 5, none⟩) (by simp) (.int .i64 0)).setCell (p := ⟨w0.heap.size, 6, none⟩) (by simp) (.int .i64 0)).setCell (p := ⟨w0.heap.size, 7, none⟩) (by simp) (.string ⟨#[]⟩)).setCell (p := ⟨w0.heap.size, 8, none⟩) (by simp) (.string ⟨#[]⟩)).setCell (p := ⟨w0.heap.size, 9, none⟩) (by simp) (.string ⟨#[]⟩)).setCell (p := ⟨w0.heap.size, 10, none⟩) (by simp) (.int .i64 0)).setCell (p := ⟨w0.heap.size, 11, none⟩) (by simp) (.int .i64 0)).setCell (p := ⟨w0.heap.size, 12, none⟩) (by simp) (.int .i64 0)).setCell (p := ⟨w0.heap.size, 13, none⟩) (by simp) (.int .i64 0)).setCell (p := ⟨(w0.heap.size + 1), 0, none⟩) (by simp) (.int .i64 2)).setCell (p := ⟨(w0.heap.size + 1), 1, none⟩) (by simp) (.int .i64 a0)).setCell (p := ⟨(w0.heap.size + 1), 2, none⟩) (by simp) (.int .i64 a1)).setCell (p := ⟨(w0.heap.size + 1), 3, none⟩) (by simp) (.int .i64 a2)).setCell (p := ⟨(w0.heap.size + 1), 4, none⟩) (by simp) (.int .i64 b0)).setCell (p := ⟨(w0.heap.size + 1), 5, none⟩) (by simp) (.int .i64 b1)).setCell (p := ⟨(w0.heap.size + 1), 6, none⟩) (by simp) (.int .i64 b2)).setCell (p := ⟨(w0.heap.size + 1), 7, none⟩) (by simp) (.int .i64 z2)).setCell (p := ⟨(w0.heap.size + 1), 8, none⟩) (by simp) (.int .i64 z3))
  have k0 := at_ h4 0 rfl
  have k1 := at_ h4 1 rfl
  have k2 := at_ h4 2 rfl
  have k3 := at_ h4 3 rfl
  have k4 := at_ h4 4 rfl
  have k5 := at_ h4 5 rfl
  have k6 := at_ h4 6 rfl
  have k7 := at_ h4 7 rfl
  have k8 := at_ h4 8 rfl
  have k9 := at_ h4 9 rfl
  have k10 := at_ h4 10 rfl
  have k11 := at_ h4 11 rfl
  have k12 := at_ h4 12 rfl
  have k13 := at_ h4 13 rfl
  have c0 := at_ h5 0 rfl
  have c1 := at_ h5 1 rfl
  have c2 := at_ h5 2 rfl
  have c3 := at_ h5 3 rfl
  have c4 := at_ h5 4 rfl
  have c5 := at_ h5 5 rfl
  have c6 := at_ h5 6 rfl
  have c7 := at_ h5 7 rfl
  have c8 := at_ h5 8 rfl
  (try simp only [Exit.inBlock, Exit.then])
  refine bodyPost_ret (by simp [results, Tryd.results38, k0.1, k1.1, k2.1, k3.1, k4.1, k5.1, k6.1, k7.1, k8.1, k9.1, k10.1, k11.1, k12.1, k13.1, c0.1, c1.1, c2.1, c3.1, c4.1, c5.1, c6.1, c7.1, c8.1, go_sem]; try rfl) rfl ?_
  exact ⟨⟨a0, a1, a2, b0, b1, b2, z2, z3, rfl⟩, hbf⟩
/-- What is there when a text begins to be scanned. -/
structure Begun (A : Option Addr) (T : List Int) (ci : Nat) (E : Value) (x : Int) (rest : List Int) (w0 : World) : Prop where
  eof : w0.cell? ⟨2, 0, none⟩ = some E
  isEof : IsEof E
  inp : In w0 A T
  text : T = us (x :: rest)
  small : x < 128
  ch : ∀ y ∈ x :: rest, Ch y
  last : Lfd (x :: rest)
  len : T.length ≤ 1000000
  cap : T.length ≤ ci
end Go.Proofs.YtocbbekciphjgaaDoor.Qd
