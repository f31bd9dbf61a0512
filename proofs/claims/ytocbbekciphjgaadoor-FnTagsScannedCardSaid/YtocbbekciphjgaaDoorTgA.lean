/- A tag's handle is scanned (yaml_parser_scan_tag_handle): the walk. -/
import Derived.Test.YtocbbekciphjgaaDoorAnG
namespace Go.Proofs.YtocbbekciphjgaaDoor.Sc
open Go.RowKit Go.Proofs.YtocbbekciphjgaaDoor.Rdp Go.Proofs.YtocbbekciphjgaaDoor.Pa
set_option linter.unusedVariables false
set_option linter.unusedSimpArgs false
/-- What is left when characters have been passed over; none need lie ready. -/
structure Gone (k : Kn) (p c n mi mc : Nat) (L : List Value) (ps : List Nat) (w w' : World) : Prop where
  ex : ∃ u bp bl L', Rdr k p (c + n) u bp bl L' w' ∧ L'[24]? = some (.int .i64 (mi + n : Nat)) ∧ L'[26]? = some (.int .i64 (mc + n : Nat)) ∧ (∃ z, L'[19]? = some (.int .i64 z)) ∧ (∀ j, rdOff j → j ≠ 19 → j ≠ 24 → j ≠ 26 → L'[j]? = L[j]?)
  kp : Kp ps w w'
theorem Moved.gone {k : Kn} {p c n mi mc : Nat} {L : List Value} {ps : List Nat} {w w' : World} (h : Moved k p c n mi mc L ps w w') : Gone k p c n mi mc L ps w w' := by
  obtain ⟨⟨u, bp, bl, L', h1, h2, h3⟩, hk⟩ := h
  exact ⟨⟨u, bp, bl, L', h1, h3⟩, hk⟩
theorem Held.slice {T : List Int} {lo c0 i : Nat} {v : Value} {w : World} (h : Held T lo c0 i v w) : ∃ a n c, v = .slice a n c := by
  rcases h with ⟨_, h⟩ | ⟨g, G, h, _⟩
  · exact ⟨_, _, _, h⟩
  · exact ⟨_, _, _, h⟩
/-- Some letters have been read, and a character lies ready. -/
def Got (k : Kn) (p c mi mc n lo : Nat) (L : List Value) (w0 : World) (i : Nat) (v : Value) (w : World) : Prop :=
  i ≤ n ∧ Moved k p c i mi mc L (k.bs p) w0 w ∧ Held k.T lo c i v w
theorem Got.upd {k : Kn} {p c mi mc n lo i u m : Nat} {z : Int} {L L1 : List Value} {w0 w w' : World} {v : Value} (hu : Upd k p (c + i) u m L1 w w') (h24 : L1[24]? = some (.int .i64 (mi + i : Nat))) (h26 : L1[26]? = some (.int .i64 (mc + i : Nat))) (h19 : L1[19]? = some (.int .i64 z)) (ho : ∀ j, rdOff j → j ≠ 19 → j ≠ 24 → j ≠ 26 → L1[j]? = L[j]?)
    (hk : Kp (k.bs p) w0 w) (hi : i ≤ n) (hh : Held k.T lo c i v w) (hlo : ∀ g, lo ≤ g → g ∉ k.bs p) : Got k p c mi mc n lo L w0 i v w' :=
  ⟨hi, moved_upd hu h24 h26 h19 ho hk (fun _ h => h), by
    obtain ⟨u', bp', bl', L', h1, h2, h3, h4, h5, h6, h7⟩ := hu
    exact hh.kp h6 hlo⟩
set_option maxHeartbeats 16000000 in
set_option maxRecDepth 100000 in
theorem handle_any (k : Kn) (p c u bp bl mi mc hb n m : Nat) (z x s0 s1 s2 : Int) (vo : Value) (L : List Value) (w : World) (hr : RoundOk k p) (h : Rdr k p c (u + 1) bp bl L w) (h24 : L[24]? = some (.int .i64 (mi : Nat))) (h26 : L[26]? = some (.int .i64 (mc : Nat))) (h19 : L[19]? = some (.int .i64 z)) (hmi : mi ≤ 1000000) (hmc : mc ≤ 1000000)
    (hsign : S k.T c = 33) (hal : ∀ i, i < n → Al.al (S k.T (c + (1 + i))) = true) (hn2 : n ≤ 8) (hx : S k.T (c + (1 + n)) = x) (hend : Al.al x = false) (hx0 : 0 ≤ x) (hx1 : x < 128) (hm : (x = 33 ∧ m = 2 + n) ∨ (x ≠ 33 ∧ m = 1 + n))
    (ht : Bk w hb 22 [vo]) (hft : Far k p hb) (hg : 2 < w.heap.size) :
    Calls Tryd.prog 112 #[.pointer (some ⟨p, 0, none⟩), .bool false, .agg #[.int .i64 s0, .int .i64 s1, .int .i64 s2], .pointer (some ⟨hb, 0, none⟩)] w fun e w' => e = .returned (.bool true) ∧ ∃ v, Bk w' hb 22 [v] ∧ Held k.T w.heap.size c m v w' ∧ Gone k p c m mi mc L (hb :: k.bs p) w w' := by
  have hfg : ∀ g, w.heap.size ≤ g → Far k p g := fun g hg => far_new h hg
  have hbl := ht.lt
  obtain ⟨wa, HWA⟩ : ∃ wa : World, Hid (w.alloc (.cells #[.int .i64 s0, .int .i64 s1, .int .i64 s2] 74) = wa) := ⟨_, rfl⟩
  have hba : Below w.heap.size w wa := by rw [← HWA.out]; exact (Below.refl _ _).alloc (Nat.le_refl _) _
  have hra : Rdr k p c (u + 1) bp bl L wa := rdr_new h hba
  have hta : Bk wa hb 22 [vo] := by rw [← HWA.out]; exact ht.alloc _
  have hsa : wa.heap.size = w.heap.size + 1 := by rw [← HWA.out]; simp
  have hu541 := rdr_u hra
  have hrd := hra.ready 1 (by omega)
  have hsm := hra.small
  have hge := adv_ge k.T c 1
  have hby := hra.byte 0 (by omega)
  rw [Nat.add_zero, Nat.add_zero, hsign] at hby
  obtain ⟨c16, f16⟩ := at_ hra.pb 16 hra.at16
  obtain ⟨c17, f17⟩ := at_ hra.pb 17 hra.at17
  obtain ⟨c18, f18⟩ := at_ hra.pb 18 hra.at18
  have j1 : (bp : Int) < (bl : Int) := by omega
  have j0 : (0 : Int) ≤ (bp : Int) := by omega
  have j2 : (bl : Int) ≤ 541 := by omega
  have hub : decide (((u + 1 : Nat) : Int) < 1) = false := by simp; omega
  have HFG := Lib.hid hfg
  have HBA := Lib.hid hba
  have HRA := Lib.hid hra
  have HTA := Lib.hid hta
  have HR := Lib.hid hr
  have H24 := Lib.hid h24
  have H26 := Lib.hid h26
  have H19 := Lib.hid h19
  have HAL := Lib.hid hal
  have HX := Lib.hid hx
  have HEND := Lib.hid hend
  have HM := Lib.hid hm
  have HFT := Lib.hid hft
  have HSG := Lib.hid hsign
  clear h hr h24 h26 h19 hal hx hend hm ht hft hfg hba hra hta hsign hrd hge
  go_enter Tryd.func112, Tryd.ntmps112
  try simp only [List.append]
  go_upto_region 1 with fail
  rw [HWA.out]
  go_wp2_with fail
  go_quiet (fail)
  obtain ⟨wb, HWB⟩ : ∃ wb : World, Hid (wa.drewN nq = wb) := ⟨_, rfl⟩
  rw [HWB.out]
  have hrb : Rdr k p c (u + 1) bp bl L wb := by rw [← HWB.out]; exact HRA.out.drewN nq
  have hkb : Kp (k.bs p) wa wb := by rw [← HWB.out]; exact (Kp.refl _ _).drewN nq
  have hsb : wb.heap.size = wa.heap.size := by rw [← HWB.out]; rfl
  have HRB := Lib.hid hrb
  have HKB := Lib.hid hkb
  clear hrb hkb HWB c16 f16 c17 f17 c18 f18 hby
  go_wp2_with fail
  refine (read_al k p c u bp bl mi mc c 0 wa.heap.size z 33 (.slice none 0 0) L wb HRB.out H24.out H26.out H19.out (by omega) (by omega) (by omega) HSG.out (by omega) (by omega) rfl (by omega) (.inl ⟨rfl, rfl⟩) (by omega) (fun g hg => HFG.out g (by omega))).mono ?_
  rintro e w4 ⟨v4, L4, rfl, hh4, hr4, ⟨h244, h264, ⟨z4, h194⟩, ho4⟩, qs, hkq, hqs⟩
  have hk4 : Kp (k.bs p) wa w4 := Kp.trans_new HKB.out hkq (fun b hb => by
    simp only [List.mem_cons] at hb
    rcases hb with rfl | hb
    · exact .inl (k.mp b)
    · exact .inr (hqs b hb))
  have ho5 : ∀ j, rdOff j → j ≠ 19 → j ≠ 24 → j ≠ 26 → L4[j]? = L[j]? := fun j j1 j2 j3 j4 => ho4 j (by unfold rdOff at j1; omega) (by unfold rdOff at j1; omega) j2 j3 j4
  have hg4 : 2 < w4.heap.size := by have := hk4.size; omega
  obtain ⟨c18, f18⟩ := at_ hr4.pb 18 hr4.at18
  obtain ⟨ub, hubu, HUB2⟩ : ∃ b : Bool, decide ((u : Int) < 1) = b ∧ Hid (b = false → 1 ≤ u) := ⟨_, rfl, Lib.hid fun h => by simp at h; omega⟩
  have HH4 := Lib.hid hh4
  have HR4 := Lib.hid hr4
  have H244 := Lib.hid h244
  have H264 := Lib.hid h264
  have H194 := Lib.hid h194
  have HO5 := Lib.hid ho5
  have HK4 := Lib.hid hk4
  clear hh4 hr4 h244 h264 h194 ho4 ho5 hkq hqs hk4 hub
  go_upto_region 8 with fail
  go_cut [47] from 38 to 47 (fun s47 wx => s47 = .bool false ∧ Got k p c mi mc (1 + n) wa.heap.size L wa 1 v4 wx)
  case first =>
    cases ub with
    | false =>
      have hu1 := HUB2.out rfl
      go_wp2_with fail
      go_meet
      case rel => exact ⟨rfl, by omega, ⟨⟨u, _, bl, L4, HR4.out, hu1, H244.out, H264.out, ⟨z4, H194.out⟩, HO5.out⟩, HK4.out⟩, HH4.out⟩
    | true =>
      go_wp2_with fail
      refine (ub_any k p (c + 1) u _ bl 1 L4 w4 HR.out HR4.out (by omega) (by omega) hg4).mono ?_
      rintro e w3 ⟨rfl, hupd⟩
      have HU := Lib.hid (Got.upd (i := 1) (n := 1 + n) (v := v4) (lo := wa.heap.size) hupd H244.out H264.out H194.out HO5.out HK4.out (by omega) HH4.out (fun g hg => (HFG.out g (by omega)).1))
      clear hupd
      go_wp2_with fail
      go_meet
      case rel => exact ⟨rfl, HU.out⟩
  case rest =>
    obtain ⟨rfl, hst⟩ := hcut
    have HST := Lib.hid hst
    clear hst hubu c18 f18 HR4 H244 H264 H194 HO5 HK4 HH4
    go_wp2_with fail
    go_loopg [9] n (fun g s9 wr => ∃ i : Nat, g = n - i ∧ Got k p c mi mc (1 + n) wa.heap.size L wa (1 + i) s9 wr)
    case atStart => exact ⟨0, rfl, HST.out⟩
    obtain ⟨i, hgk, hin, ⟨⟨u1, bp1, bl1, L1, hr1, hu1, h241, h261, ⟨z1, h191⟩, ho1⟩, hk1⟩, hh⟩ := hrel
    have HGK := Lib.hid hgk
    have hrd1 := hr1.ready 1 hu1
    have hsm1 := hr1.small
    have hge1 := adv_ge k.T (c + (1 + i)) 1
    have hby := hr1.byte 0 (by omega)
    rw [Nat.add_zero, Nat.add_zero] at hby
    obtain ⟨y, HY⟩ : ∃ y, Hid (S k.T (c + (1 + i)) = y) := ⟨_, rfl⟩
    rw [HY.out] at hby
    have hyb : 0 ≤ y ∧ y ≤ 255 := by
      by_cases hlt : i < n
      · have := al_cw (HAL.out i hlt)
        rw [HY.out] at this
        omega
      · obtain rfl : i = n := by omega
        have e := HY.out
        rw [HX.out] at e
        omega
    have hdc : ∀ N, Calls Tryd.prog 108 #[.slice (some ⟨k.q, 0, none⟩) bl1 1536, .int .i64 bp1] (wr.drewN N) fun e w' => e = .returned (.bool (Al.al y)) ∧ w' = wr.drewN N := fun N => (Al.al_any k.q 0 bl1 1536 bp1 y (by omega) (by omega) hyb.1 hyb.2 (wr.drewN N) (by rw [Nat.zero_add]; exact hby)).mono fun _ _ h => ⟨h.1, h.2.symm⟩
    obtain ⟨c16, f16⟩ := at_ hr1.pb 16 hr1.at16
    obtain ⟨c17, f17⟩ := at_ hr1.pb 17 hr1.at17
    have j1 : (bp1 : Int) < (bl1 : Int) := by omega
    have HR1 := Lib.hid hr1
    have H241 := Lib.hid h241
    have H261 := Lib.hid h261
    have H191 := Lib.hid h191
    have HO1 := Lib.hid ho1
    have HK1 := Lib.hid hk1
    have HH := Lib.hid hh
    have hsz1 := hk1.size
    have hv541 := rdr_u hr1
    have hg1 : 2 < wr.heap.size := by omega
    by_cases hlt : i < n
    · have hal := HAL.out i hlt
      rw [HY.out] at hal
      rw [hal] at hdc
      have hyc := al_cw hal
      have HDC := Lib.hid hdc
      obtain ⟨v, rfl⟩ : ∃ v, u1 = v + 1 := ⟨u1 - 1, by omega⟩
      clear hr1 h241 h261 h191 ho1 hk1 hh hdc hby hrd1 hge1 hgk hal
      go_wp2_with fail
      go_quiet ((go_at_call 108; exact Calls.quiet_of_same (HDC.out _)))
      go_wp2_with fail
      refine (read_al k p (c + (1 + i)) v bp1 bl1 (mi + (1 + i)) (mc + (1 + i)) c (1 + i) wa.heap.size z1 y u9 L1 _ (HR1.out.drewN _) H241.out H261.out H191.out (by omega) (by omega) (by omega) HY.out hyc.1 hyc.2.1 rfl (by omega) (HH.out.kp ((Kp.refl [] wr).drewN _) (by simp)) hsz1 (fun g hg => HFG.out g (by omega))).mono ?_
      rintro e w4 ⟨v4, L4, rfl, hh4, hr4, ⟨h244, h264, ⟨z4, h194⟩, ho4⟩, qs, hkq, hqs⟩
      have hk4 : Kp (k.bs p) wa w4 := Kp.trans_new HK1.out (((Kp.refl _ wr).drewN _).trans hkq) (fun b hb => by
        simp only [List.mem_cons] at hb
        rcases hb with rfl | hb
        · exact .inl (k.mp b)
        · exact .inr (hqs b hb))
      have ho5 : ∀ j, rdOff j → j ≠ 19 → j ≠ 24 → j ≠ 26 → L4[j]? = L[j]? := fun j j1 j2 j3 j4 => by
        rw [ho4 j (by unfold rdOff at j1; omega) (by unfold rdOff at j1; omega) j2 j3 j4]
        exact HO1.out j j1 j2 j3 j4
      have hg4 : 2 < w4.heap.size := by have := hk4.size; omega
      obtain ⟨c18, f18⟩ := at_ hr4.pb 18 hr4.at18
      have HH4 := Lib.hid hh4
      have HR4 := Lib.hid hr4
      have H244 := Lib.hid h244
      have H264 := Lib.hid h264
      have H194 := Lib.hid h194
      have HO5 := Lib.hid ho5
      have HK4 := Lib.hid hk4
      clear hh4 hr4 h244 h264 h194 ho4 ho5 hkq hqs hk4 c16 c17 f16 f17
      by_cases hv0 : v = 0
      · have hub : decide ((v : Int) < 1) = true := by simp; omega
        clear hv0
        go_wp2_with fail
        refine (ub_any k p (c + (1 + (i + 1))) v _ bl1 1 L4 w4 HR.out HR4.out (by omega) (by omega) hg4).mono ?_
        rintro e w5 ⟨rfl, hupd⟩
        have HU := Lib.hid (Got.upd (i := 1 + (i + 1)) (n := 1 + n) (v := v4) (lo := wa.heap.size) hupd H244.out H264.out H194.out HO5.out HK4.out (by omega) HH4.out (fun g hg => (HFG.out g (by omega)).1))
        clear hupd
        go_wp2_with fail
        go_roundg (n - (i + 1))
        case measure => have := HGK.out; omega
        case rel => exact ⟨i + 1, rfl, HU.out⟩
      · have hub : decide ((v : Int) < 1) = false := by simp; omega
        have HV := Lib.hid hv0
        clear hv0
        go_wp2_with fail
        go_roundg (n - (i + 1))
        case measure => have := HGK.out; omega
        case rel => exact ⟨i + 1, rfl, by omega, ⟨⟨v, _, bl1, L4, HR4.out, by have := HV.out; omega, H244.out, H264.out, ⟨z4, H194.out⟩, HO5.out⟩, HK4.out⟩, HH4.out⟩
    · obtain rfl : i = n := by omega
      have hyx : y = x := by rw [← HY.out]; exact HX.out
      subst hyx
      rw [HEND.out] at hdc
      have HDC := Lib.hid hdc
      have hT := HTA.out.kp hk1 HFT.out.1
      have HTT := Lib.hid hT
      clear hr1 h241 h261 h191 ho1 hk1 hh hdc hrd1 hge1 hgk hT hby
      go_wp2_with fail
      go_quiet ((go_at_call 108; exact Calls.quiet_of_same (HDC.out _)))
      obtain ⟨wb, HWB⟩ : ∃ wb : World, Hid (wr.drewN nq = wb) := ⟨_, rfl⟩
      rw [HWB.out]
      have hrb : Rdr k p (c + (1 + i)) u1 bp1 bl1 L1 wb := by rw [← HWB.out]; exact HR1.out.drewN nq
      have hkb : Kp (k.bs p) wa wb := by rw [← HWB.out]; exact HK1.out.drewN nq
      have hTb : Bk wb hb 22 [vo] := by rw [← HWB.out]; exact HTT.out
      have hhb : Held k.T wa.heap.size c (1 + i) u9 wb := by rw [← HWB.out]; exact HH.out.kp ((Kp.refl [] wr).drewN _) (by simp)
      clear c16 f16 c17 f17 HTT HR1 HK1 HH HWB
      have hrd1 := hrb.ready 1 hu1
      have hge1 := adv_ge k.T (c + (1 + i)) 1
      have hby := hrb.byte 0 (by omega)
      rw [Nat.add_zero, Nat.add_zero, HY.out] at hby
      obtain ⟨c16, f16⟩ := at_ hrb.pb 16 hrb.at16
      obtain ⟨c17, f17⟩ := at_ hrb.pb 17 hrb.at17
      have j0 : (0 : Int) ≤ (bp1 : Int) := by omega
      have hszb := hkb.size
      have HRB := Lib.hid hrb
      have HKB := Lib.hid hkb
      have HTB := Lib.hid hTb
      have HHB := Lib.hid hhb
      clear hrb hkb hTb hhb hrd1 hge1
      rcases HM.out with ⟨rfl, hm⟩ | ⟨hy33, hm⟩
      · have HMM := Lib.hid hm
        clear hm
        go_wp2_with fail
        go_quiet (fail)
        obtain ⟨wc, HWC⟩ : ∃ wc : World, Hid (wb.drewN nq = wc) := ⟨_, rfl⟩
        rw [HWC.out]
        have hrc : Rdr k p (c + (1 + i)) u1 bp1 bl1 L1 wc := by rw [← HWC.out]; exact HRB.out.drewN nq
        have hkc : Kp (k.bs p) wa wc := by rw [← HWC.out]; exact HKB.out.drewN nq
        have hTc : Bk wc hb 22 [vo] := by rw [← HWC.out]; exact HTB.out
        have hhc : Held k.T wa.heap.size c (1 + i) u9 wc := by rw [← HWC.out]; exact HHB.out.kp ((Kp.refl [] wb).drewN _) (by simp)
        have hszc := hkc.size
        have HRC := Lib.hid hrc
        have HKC := Lib.hid hkc
        have HTC := Lib.hid hTc
        have HHC := Lib.hid hhc
        clear hrc hkc hTc hhc HWC c16 f16 c17 f17 hby HRB HKB HTB HHB
        obtain ⟨v, rfl⟩ : ∃ v, u1 = v + 1 := ⟨u1 - 1, by omega⟩
        go_wp2_with fail
        refine (read_al k p (c + (1 + i)) v bp1 bl1 (mi + (1 + i)) (mc + (1 + i)) c (1 + i) wa.heap.size z1 33 u9 L1 wc HRC.out H241.out H261.out H191.out (by omega) (by omega) (by omega) HY.out (by omega) (by omega) rfl (by omega) HHC.out hszc (fun g hg => HFG.out g (by omega))).mono ?_
        rintro e w4 ⟨v4, L4, rfl, hh4, hr4, ⟨h244, h264, ⟨z4, h194⟩, ho4⟩, qs, hkq, hqs⟩
        have hq : ∀ b, b ∈ p :: qs → b ∈ k.bs p ∨ wa.heap.size ≤ b := fun b hb => by
          simp only [List.mem_cons] at hb
          rcases hb with rfl | hb
          · exact .inl (k.mp b)
          · exact .inr (hqs b hb)
        have hk4 : Kp (k.bs p) wa w4 := Kp.trans_new HKC.out hkq hq
        have hT4 : Bk w4 hb 22 [vo] := HTC.out.kp hkq (fun hh => by
          rcases hq _ hh with h | h
          · exact HFT.out.1 h
          · omega)
        have ho5 : ∀ j, rdOff j → j ≠ 19 → j ≠ 24 → j ≠ 26 → L4[j]? = L[j]? := fun j j1 j2 j3 j4 => by
          rw [ho4 j (by unfold rdOff at j1; omega) (by unfold rdOff at j1; omega) j2 j3 j4]
          exact HO1.out j j1 j2 j3 j4
        obtain ⟨ct, ft⟩ := at_ hT4 0 rfl
        obtain ⟨a4, n4, k4, rfl⟩ := hh4.slice
        have HH4 := Lib.hid hh4
        have HR4 := Lib.hid hr4
        have H244 := Lib.hid h244
        have H264 := Lib.hid h264
        have H194 := Lib.hid h194
        have HO5 := Lib.hid ho5
        have HK4 := Lib.hid hk4
        have HT4 := Lib.hid hT4
        clear hh4 hr4 h244 h264 h194 ho4 ho5 hkq hqs hq hk4 hT4
        go_wp2_with fail
        go_ret
        have hks : Kp [hb] w4 (w4.setCell ⟨hb, 0, none⟩ (.slice a4 n4 k4)) := (Kp.refl _ _).setCell hb 0 _ (by simp)
        refine ⟨rfl, _, HT4.out.set 0 (.slice a4 n4 k4), ?_, ⟨⟨v, bp1 + 1, bl1, L4, ?_, ?_, ?_, ⟨z4, H194.out⟩, HO5.out⟩, ?_⟩⟩
        · have := (HH4.out.kp hks (fun b hb2 => by simp; omega)).low (lo2 := w.heap.size) (by omega)
          rw [show m = 1 + i + 1 by have := HMM.out; omega]
          exact this
        · have := rdr_far HR4.out hks (fun b hb2 => by simp at hb2; subst hb2; exact HFT.out)
          rw [show c + m = c + (1 + i) + 1 by have := HMM.out; omega]
          exact this
        · rw [show mi + m = mi + (1 + i) + 1 by have := HMM.out; omega]; exact H244.out
        · rw [show mc + m = mc + (1 + i) + 1 by have := HMM.out; omega]; exact H264.out
        · exact ((Kp.of_below HBA.out).trans (HK4.out.mono fun b hb2 => List.mem_cons_of_mem _ hb2)).trans (hks.mono fun b hb2 => by simp at hb2; simp [hb2])
      · have HMM := Lib.hid hm
        have y33 : (y == 33) = false := by rw [beq_eq_false_iff_ne]; exact hy33
        obtain ⟨ct, ft⟩ := at_ HTB.out 0 rfl
        clear hm hy33
        go_wp2_with fail
        go_quiet (fail)
        obtain ⟨wc, HWC⟩ : ∃ wc : World, Hid (wb.drewN nq = wc) := ⟨_, rfl⟩
        rw [HWC.out]
        have hrc : Rdr k p (c + (1 + i)) u1 bp1 bl1 L1 wc := by rw [← HWC.out]; exact HRB.out.drewN nq
        have hkc : Kp (k.bs p) wa wc := by rw [← HWC.out]; exact HKB.out.drewN nq
        have hTc : Bk wc hb 22 [vo] := by rw [← HWC.out]; exact HTB.out
        have hhc : Held k.T wa.heap.size c (1 + i) u9 wc := by rw [← HWC.out]; exact HHB.out.kp ((Kp.refl [] wb).drewN _) (by simp)
        have HRC := Lib.hid hrc
        have HKC := Lib.hid hkc
        have HTC := Lib.hid hTc
        have HHC := Lib.hid hhc
        clear ct ft c16 f16 c17 f17 hby
        obtain ⟨ct, ft⟩ := at_ hTc 0 rfl
        obtain ⟨a4, n4, k4, rfl⟩ := hhc.slice
        clear hrc hkc hTc hhc HWC HRB HKB HTB HHB
        go_wp2_with fail
        go_ret
        have hks : Kp [hb] wc (wc.setCell ⟨hb, 0, none⟩ (.slice a4 n4 k4)) := (Kp.refl _ _).setCell hb 0 _ (by simp)
        refine ⟨rfl, _, HTC.out.set 0 (.slice a4 n4 k4), ?_, ⟨⟨u1, bp1, bl1, L1, ?_, ?_, ?_, ⟨z1, H191.out⟩, HO1.out⟩, ?_⟩⟩
        · have := (HHC.out.kp hks (fun b hb2 => by simp; omega)).low (lo2 := w.heap.size) (by omega)
          rw [show m = 1 + i by have := HMM.out; omega]
          exact this
        · have := rdr_far HRC.out hks (fun b hb2 => by simp at hb2; subst hb2; exact HFT.out)
          rw [show m = 1 + i by have := HMM.out; omega]
          exact this
        · rw [show m = 1 + i by have := HMM.out; omega]; exact H241.out
        · rw [show m = 1 + i by have := HMM.out; omega]; exact H261.out
        · exact ((Kp.of_below HBA.out).trans (HKC.out.mono fun b hb2 => List.mem_cons_of_mem _ hb2)).trans (hks.mono fun b hb2 => by simp at hb2; simp [hb2])
end Go.Proofs.YtocbbekciphjgaaDoor.Sc
