/- No version: the walk (yaml_parser_scan_version_directive_value, where no point follows). -/
import Derived.Test.YtocbbekciphjgaaDoorScD
namespace Go.Proofs.YtocbbekciphjgaaDoor.Sc
open Go.RowKit Go.Proofs.YtocbbekciphjgaaDoor.Rdp Go.Proofs.YtocbbekciphjgaaDoor.Pa
set_option linter.unusedVariables false
set_option linter.unusedSimpArgs false
set_option maxHeartbeats 16000000 in
set_option maxRecDepth 100000 in
theorem bad_any (k : Kn) (p c u bp bl mi mc s n1 m1 m2 : Nat) (z v1 v2 s0 s1 s2 : Int) (L : List Value) (w : World) (hr : RoundOk k p) (h : Rdr k p c u bp bl L w) (h24 : L[24]? = some (.int .i64 (mi : Nat))) (h26 : L[26]? = some (.int .i64 (mc : Nat))) (h19 : L[19]? = some (.int .i64 z)) (hmi : mi ≤ 1000000) (hmc : mc ≤ 1000000) (hs : s ≤ 1000000)
    (hbl : ∀ i, i < s → S k.T (c + i) = 32) (hn1 : 1 ≤ n1) (hn2 : n1 ≤ 2) (hd1 : ∀ i, i < n1 → isDigit (S k.T (c + s + i)) = true) (hdot : S k.T (c + s + n1) ≠ 46) (hend : isDigit (S k.T (c + s + n1)) = false) (hce : Cells L) (h25 : ∃ z, L[25]? = some (.int .i64 z))
    (hm1 : w.cell? ⟨m1, 0, none⟩ = some (.int .i8 v1)) (hmf1 : w.frozen? ⟨m1, 0, none⟩ = false) (hm2 : w.cell? ⟨m2, 0, none⟩ = some (.int .i8 v2)) (hmf2 : w.frozen? ⟨m2, 0, none⟩ = false) (hne : m1 ≠ m2) (hf1 : Far k p m1) (hf2 : Far k p m2) (hg : 2 < w.heap.size) :
    Calls Tryd.prog 64 #[.pointer (some ⟨p, 0, none⟩), .agg #[.int .i64 s0, .int .i64 s1, .int .i64 s2], .pointer (some ⟨m1, 0, none⟩), .pointer (some ⟨m2, 0, none⟩)] w fun e w' => e = .returned (.bool false) ∧ ∃ L', Bk w' p 120 L' ∧ Cells L' ∧ L'[0]? = some (.int .i64 3) ∧ Kp (m1 :: m2 :: k.bs p) w w' := by
  have hb0 : Below w.heap.size w (w.alloc (.cells #[.int .i64 s0, .int .i64 s1, .int .i64 s2] 74)) := (Below.refl _ _).alloc (Nat.le_refl _) _
  have hr0 := rdr_new h hb0
  have hk0 : Kp [] w (w.alloc (.cells #[.int .i64 s0, .int .i64 s1, .int .i64 s2] 74)) := Kp.of_below hb0
  have hg0 : 2 < (w.alloc (.cells #[.int .i64 s0, .int .i64 s1, .int .i64 s2] 74)).heap.size := by simp; omega
  have q0 : (w.alloc (.cells #[.int .i64 s0, .int .i64 s1, .int .i64 s2] 74)).cell? ⟨w.heap.size, 0, none⟩ = some (.int .i64 s0) := by simp
  have q1 : (w.alloc (.cells #[.int .i64 s0, .int .i64 s1, .int .i64 s2] 74)).cell? ⟨w.heap.size, 1, none⟩ = some (.int .i64 s1) := by simp
  have q2 : (w.alloc (.cells #[.int .i64 s0, .int .i64 s1, .int .i64 s2] 74)).cell? ⟨w.heap.size, 2, none⟩ = some (.int .i64 s2) := by simp
  obtain ⟨wa, HWA⟩ : ∃ wa : World, Hid (w.alloc (.cells #[.int .i64 s0, .int .i64 s1, .int .i64 s2] 74) = wa) := ⟨_, rfl⟩
  rw [HWA.out] at hr0 hk0 hg0 q0 q1 q2
  have hW : w.heap.size ∉ m1 :: m2 :: k.bs p := by
    have l1 := World.block_lt_of_cell? w ⟨m1, 0, none⟩ hm1
    have l2 := World.block_lt_of_cell? w ⟨m2, 0, none⟩ hm2
    obtain ⟨rl, rpos, ip, eof, RL, BL, st, hl, _⟩ := h.ex
    have l3 := hl.pb.lt
    have l4 := hl.rb.lt
    have l5 := hl.qb.lt
    unfold Kn.bs
    simp at l1 l2 ⊢
    omega
  have HW := Lib.hid hW
  have HR0 := Lib.hid hr0
  have HK0 := Lib.hid hk0
  have HRR := Lib.hid hr
  have H24 := Lib.hid h24
  have H26 := Lib.hid h26
  have H19 := Lib.hid h19
  have HBL := Lib.hid hbl
  have HD1 := Lib.hid hd1
  have HDOT := Lib.hid hdot
  have HEND := Lib.hid hend
  have HCE := Lib.hid hce
  have H25 := Lib.hid h25
  have HC1 := Lib.hid (kp_cell hk0 hm1 (by simp))
  have HC2 := Lib.hid (kp_cell hk0 hm2 (by simp))
  have HF1 := Lib.hid (kp_frozen hk0 hm1 hmf1 (by simp))
  have HF2 := Lib.hid (kp_frozen hk0 hm2 hmf2 (by simp))
  have HQ0 := Lib.hid q0
  have HQ1 := Lib.hid q1
  have HQ2 := Lib.hid q2
  have HFA1 := Lib.hid hf1
  have HFA2 := Lib.hid hf2
  have HNE := Lib.hid hne
  have hu541 := rdr_u h
  obtain ⟨c18, f18⟩ := at_ hr0.pb 18 hr0.at18
  obtain ⟨ub, hub, HUB2⟩ : ∃ b : Bool, decide ((u : Int) < 1) = b ∧ Hid (b = false → 1 ≤ u) := ⟨_, rfl, Lib.hid fun h => by simp at h; omega⟩
  clear h h24 h26 h19 hbl hd1 hdot hend hce h25 hr0 hk0 hr hb0 hm1 hm2 hmf1 hmf2 q0 q1 q2 hf1 hf2 hne hW
  go_enter Tryd.func64, Tryd.ntmps64
  go_upto_region 1 with fail
  rw [HWA.out]
  go_cut [18] from 9 to 18 (fun s18 wx => s18 = .bool false ∧ Moved k p c 0 mi mc L (k.bs p) wa wx)
  case first =>
    cases ub with
    | false =>
      have hu1 := HUB2.out rfl
      go_wp2_with fail
      go_meet
      case rel => exact ⟨rfl, ⟨⟨u, bp, bl, L, HR0.out, hu1, H24.out, H26.out, ⟨z, H19.out⟩, fun _ _ _ _ _ => rfl⟩, Kp.refl _ _⟩⟩
    | true =>
      go_wp2_with fail
      refine (ub_any k p c u bp bl 1 L wa HRR.out HR0.out (by omega) (by omega) hg0).mono ?_
      rintro e w1 ⟨rfl, hupd⟩
      have HU := Lib.hid (moved_upd (i := 0) hupd H24.out H26.out H19.out (fun _ _ _ _ _ => rfl) (Kp.refl (k.bs p) _) (fun _ h => h))
      clear hupd
      go_wp2_with fail
      go_meet
      case rel => exact ⟨rfl, HU.out⟩
  case rest =>
    obtain ⟨rfl, hst⟩ := hcut
    have HST := Lib.hid hst
    clear hst hub c18 f18 HR0 H24 H26 H19
    go_wp2_with fail
    go_loopg [] s (fun g wr => ∃ i : Nat, i ≤ s ∧ g = s - i ∧ Moved k p c i mi mc L (k.bs p) wa wr)
    case atStart => exact ⟨0, Nat.zero_le _, rfl, HST.out⟩
    obtain ⟨i, hin, hgk, ⟨⟨u1, bp1, bl1, L1, hr1, hu1, h241, h261, ⟨z1, h191⟩, ho1⟩, hk1⟩⟩ := hrel
    have HGK := Lib.hid hgk
    have hrd1 := hr1.ready 1 hu1
    have hsm1 := hr1.small
    have hge1 := adv_ge k.T (c + i) 1
    have hby := hr1.byte 0 (by omega)
    rw [Nat.add_zero, Nat.add_zero] at hby
    obtain ⟨x, HX⟩ : ∃ x, Hid (S k.T (c + i) = x) := ⟨_, rfl⟩
    rw [HX.out] at hby
    have hdc : ∀ N, Calls Tryd.prog 102 #[.slice (some ⟨k.q, 0, none⟩) bl1 1536, .int .i64 bp1] (wr.drewN N) fun e w' => e = .returned (.bool (isBlank x)) ∧ w' = wr.drewN N := fun N => blank_any k.q bp1 bl1 1536 x (wr.drewN N) (by omega) (by omega) hby
    obtain ⟨c16, f16⟩ := at_ hr1.pb 16 hr1.at16
    obtain ⟨c17, f17⟩ := at_ hr1.pb 17 hr1.at17
    have j1 : (bp1 : Int) < (bl1 : Int) := by omega
    have HR1 := Lib.hid hr1
    have H241 := Lib.hid h241
    have H261 := Lib.hid h261
    have H191 := Lib.hid h191
    have HO1 := Lib.hid ho1
    have HK1 := Lib.hid hk1
    have hsz1 := hk1.size
    have hv541 := rdr_u hr1
    have hg1 : 2 < wr.heap.size := by omega
    by_cases hlt : i < s
    · have hxb : x = 32 := by rw [← HX.out]; exact HBL.out i hlt
      rw [show isBlank x = true by rw [hxb]; rfl] at hdc
      have HDC := Lib.hid hdc
      have HXB := Lib.hid hxb
      obtain ⟨v, rfl⟩ : ∃ v, u1 = v + 1 := ⟨u1 - 1, by omega⟩
      clear hr1 h241 h261 h191 ho1 hk1 hdc hby hrd1 hge1 hgk hxb
      go_wp2_with fail
      go_quiet ((go_at_call 102; exact Calls.quiet_of_same (HDC.out _)))
      go_wp2_with fail
      refine (skip_any k p (c + i) v bp1 bl1 (mi + i) (mc + i) z1 L1 _ (HR1.out.drewN _) H241.out H261.out H191.out (by omega) (by omega) (by omega)).mono ?_
      rintro e w2 ⟨rfl, hsk⟩
      obtain ⟨L2, hr2, h242, h262, ⟨z2, h192⟩, ho2⟩ := hsk.ex
      have hnx : nx k.T (c + i) = c + (i + 1) := by unfold nx; rw [HX.out, HXB.out]; rfl
      rw [hnx] at hr2
      have hkp2 : Kp [p] wr w2 := ((Kp.refl _ wr).drewN _).trans hsk.kp
      have hk2 : Kp (k.bs p) wa w2 := HK1.out.trans (kp_sub hkp2)
      have hs2 : w2.heap.size = wr.heap.size := hsk.size
      have ho3 : ∀ j, rdOff j → j ≠ 19 → j ≠ 24 → j ≠ 26 → L2[j]? = L[j]? := fun j j1 j2 j3 j4 => by
        rw [ho2 j (by unfold rdOff at j1; omega) (by unfold rdOff at j1; omega) j2 j3 j4]
        exact HO1.out j j1 j2 j3 j4
      have hg2 : 2 < w2.heap.size := by omega
      obtain ⟨c18, f18⟩ := at_ hr2.pb 18 hr2.at18
      have HR2 := Lib.hid hr2
      have H242 := Lib.hid h242
      have H262 := Lib.hid h262
      have H192 := Lib.hid h192
      have HO3 := Lib.hid ho3
      have HK2 := Lib.hid hk2
      clear hsk hr2 h242 h262 h192 ho2 ho3 hnx hkp2 hk2 c16 c17 f16 f17
      by_cases hv0 : v = 0
      · have hub : decide ((v : Int) < 1) = true := by simp; omega
        clear hv0
        go_wp2_with fail
        refine (ub_any k p (c + (i + 1)) v _ bl1 1 L2 w2 HRR.out HR2.out (by omega) (by omega) hg2).mono ?_
        rintro e w3 ⟨rfl, hupd⟩
        have HU := Lib.hid (moved_upd (i := i + 1) hupd H242.out H262.out H192.out HO3.out HK2.out (fun _ h => h))
        clear hupd
        go_wp2_with fail
        go_roundg (s - (i + 1))
        case measure => have := HGK.out; omega
        case rel => exact ⟨i + 1, by omega, rfl, HU.out⟩
      · have hub : decide ((v : Int) < 1) = false := by simp; omega
        have HV := Lib.hid hv0
        clear hv0
        go_wp2_with fail
        go_roundg (s - (i + 1))
        case measure => have := HGK.out; omega
        case rel => exact ⟨i + 1, by omega, rfl, ⟨⟨v, _, bl1, L2, HR2.out, by have := HV.out; omega, H242.out, H262.out, ⟨z2, H192.out⟩, HO3.out⟩, HK2.out⟩⟩
    · obtain rfl : i = s := by omega
      have hxd := HD1.out 0 (by omega)
      rw [Nat.add_zero, HX.out] at hxd
      obtain ⟨x1, x2, x3⟩ := digit_cw hxd
      rw [show isBlank x = false by unfold isBlank; rw [Bool.or_eq_false_iff, beq_eq_false_iff_ne, beq_eq_false_iff_ne]; omega] at hdc
      have HDC := Lib.hid hdc
      have hWb : w.heap.size ∉ k.bs p := fun hh => HW.out (by simp [hh])
      have a0 := kp_cell hk1 HQ0.out hWb
      have a1 := kp_cell hk1 HQ1.out hWb
      have a2 := kp_cell hk1 HQ2.out hWb
      have mc1 := kp_cell hk1 HC1.out HFA1.out.1
      have mf1 := kp_frozen hk1 HC1.out HF1.out HFA1.out.1
      have mc2 := kp_cell hk1 HC2.out HFA2.out.1
      have mf2 := kp_frozen hk1 HC2.out HF2.out HFA2.out.1
      have HM1 := Lib.hid mc1
      have HMF1 := Lib.hid mf1
      have HM2 := Lib.hid mc2
      have HMF2 := Lib.hid mf2
      have HA0 := Lib.hid a0
      have HA1 := Lib.hid a1
      have HA2 := Lib.hid a2
      clear hr1 h241 h261 h191 ho1 hk1 hdc hby hrd1 hge1 hgk hxd hWb mc1 mf1 mc2 mf2
      go_wp2_with fail
      go_quiet ((go_at_call 102; exact Calls.quiet_of_same (HDC.out _)))
      go_wp2_with fail
      refine (num_any k p (c + i) u1 bp1 bl1 (mi + i) 0 (mc + i) n1 m1 z1 v1 s0 s1 s2 L1 _ HRR.out (HR1.out.drewN _) H241.out H261.out H191.out (by omega) (by omega) hn1 hn2 HD1.out HEND.out HM1.out HMF1.out HFA1.out hg1).mono ?_
      rintro e w2 ⟨rfl, hmv, hn1c, hn1f⟩
      obtain ⟨⟨u2, bp2, bl2, L2, hr2, hu2, h242, h262, ⟨z2, h192⟩, ho2⟩, hk2⟩ := hmv
      have hrd2 := hr2.ready 1 hu2
      have hsm2 := hr2.small
      have hge2 := adv_ge k.T (c + i + n1) 1
      have hby2 := hr2.byte 0 (by omega)
      rw [Nat.add_zero, Nat.add_zero] at hby2
      obtain ⟨y, HY⟩ : ∃ y, Hid (S k.T (c + i + n1) = y) := ⟨_, rfl⟩
      rw [HY.out] at hby2
      have hy46 : (y == 46) = false := by rw [beq_eq_false_iff_ne, ← HY.out]; exact HDOT.out
      have hv542 := rdr_u hr2
      obtain ⟨v, rfl⟩ : ∃ v, u2 = v + 1 := ⟨u2 - 1, by omega⟩
      have hkw2 : Kp (m1 :: k.bs p) wr w2 := ((Kp.refl _ wr).drewN _).trans hk2
      have hg2 : 2 < w2.heap.size := by have := hkw2.size; omega
      have hn2m : m2 ∉ m1 :: k.bs p := by
        have q1 := HFA2.out.1
        have q2 := HNE.out
        simp
        exact ⟨fun h => q2 h.symm, q1⟩
      have hwm : w.heap.size ∉ m1 :: k.bs p := fun hh => HW.out (by simp at hh ⊢; rcases hh with h | h; exact .inl h; exact .inr (.inr h))
      have b0 := kp_cell hkw2 HA0.out hwm
      have b1 := kp_cell hkw2 HA1.out hwm
      have b2 := kp_cell hkw2 HA2.out hwm
      have mc2 := kp_cell hkw2 HM2.out hn2m
      have mf2 := kp_frozen hkw2 HM2.out HMF2.out hn2m
      obtain ⟨d16, e16⟩ := at_ hr2.pb 16 hr2.at16
      obtain ⟨d17, e17⟩ := at_ hr2.pb 17 hr2.at17
      have j2 : (bp2 : Int) < (bl2 : Int) := by omega
      have HR2 := Lib.hid hr2
      have H242 := Lib.hid h242
      have H262 := Lib.hid h262
      have H192 := Lib.hid h192
      have HO2 := Lib.hid ho2
      have HK2 := Lib.hid hkw2
      have HN1C := Lib.hid hn1c
      have HB0 := Lib.hid b0
      have HB1 := Lib.hid b1
      have HB2 := Lib.hid b2
      have HP2 := Lib.hid mc2
      have HPF2 := Lib.hid mf2
      clear hr2 h242 h262 h192 ho2 hk2 hkw2 hn1c hn1f mc2 mf2 hn2m hwm hrd2 hge2 a0 a1 a2 c16 f16 c17 f17
      go_wp2_with fail
      go_quiet (fail)
      go_wp2_with fail
      have oo : ∀ j, rdOff j → j ≠ 19 → j ≠ 24 → j ≠ 26 → L2[j]? = L[j]? := fun j j1 j2 j3 j4 => (HO2.out j j1 j2 j3 j4).trans (HO1.out j j1 j2 j3 j4)
      have of : ∀ j, j ≤ 10 ∨ j = 25 → L2[j]? = L[j]? := fun j hj => oo j (by unfold rdOff; omega) (by omega) (by omega) (by omega)
      have hc2 : Cells L2 := by
        have q := HCE.out
        refine ⟨HR2.out.plen, ?_, ?_, ?_, ?_, ?_, ?_, ?_, ?_, ?_, ?_, ?_⟩
        · rw [of 0 (by omega)]; exact q.c0
        · rw [of 1 (by omega)]; exact q.c1
        · rw [of 2 (by omega)]; exact q.c2
        · rw [of 3 (by omega)]; exact q.c3
        · rw [of 4 (by omega)]; exact q.c4
        · rw [of 5 (by omega)]; exact q.c5
        · rw [of 6 (by omega)]; exact q.c6
        · rw [of 7 (by omega)]; exact q.c7
        · rw [of 8 (by omega)]; exact q.c8
        · rw [of 9 (by omega)]; exact q.c9
        · rw [of 10 (by omega)]; exact q.c10
      obtain ⟨y1, hy1⟩ := H25.out
      refine (fault_any p _ _ s0 s1 s2 _ y1 _ L2 _ (HR2.out.pb.drewN _) hc2 H242.out ((of 25 (by omega)).trans hy1) H262.out).mono ?_
      rintro e w3 ⟨rfl, L3, hb3, hc3, h03, hk3⟩
      have HB3 := Lib.hid hb3
      have HC3 := Lib.hid hc3
      have H03 := Lib.hid h03
      have HK3 := Lib.hid hk3
      clear hb3 hc3 h03 hk3 hc2
      go_wp2_with fail
      go_ret
      have s1 : Kp (m1 :: m2 :: k.bs p) w wa := HK0.out.mono (fun b hb => by simp at hb)
      have s2 : Kp (m1 :: m2 :: k.bs p) wa wr := HK1.out.mono (fun b hb => List.mem_cons_of_mem _ (List.mem_cons_of_mem _ hb))
      have s3 : Kp (m1 :: m2 :: k.bs p) wr w2 := HK2.out.mono (fun b hb => by simp at hb ⊢; rcases hb with h | h; exact .inl h; exact .inr (.inr h))
      have s4 : Kp (m1 :: m2 :: k.bs p) w2 w3 := (((Kp.refl _ w2).drewN _).trans HK3.out).mono (fun b hb => by simp at hb; subst hb; exact List.mem_cons_of_mem _ (List.mem_cons_of_mem _ (k.mp b)))
      exact ⟨rfl, L3, HB3.out, HC3.out, H03.out, ((s1.trans s2).trans s3).trans s4⟩
end Go.Proofs.YtocbbekciphjgaaDoor.Sc
