/- AnE, QiD, QiE: parts of the proof, one behind another. -/
import Derived.Test.YtocbbekciphjgaaDoorMz17
import Derived.Test.YtocbbekciphjgaaDoorMz19
import Derived.Test.YtocbbekciphjgaaDoorMh7
/- AnE -/
/- An anchor is scanned (yaml_parser_scan_anchor): the walk. -/
namespace Go.Proofs.YtocbbekciphjgaaDoor.Sc
open Go.RowKit Go.Proofs.YtocbbekciphjgaaDoor.Rdp Go.Proofs.YtocbbekciphjgaaDoor.Pa
set_option linter.unusedVariables false
set_option linter.unusedSimpArgs false
theorem al_cw {x : Int} (h : Al.al x = true) : 33 ≤ x ∧ x < 128 ∧ cw x = 1 := by
  unfold Al.al at h
  rw [decide_eq_true_eq] at h
  refine ⟨by omega, by omega, ?_⟩
  unfold cw
  rw [if_pos (by omega)]
/-- A token that says nothing. -/
def tok0 : List Value := tok 0 0 0 0 0 0 0 0 (.slice none 0 0) (.slice none 0 0) (.slice none 0 0) 0 0 0
/-- Some letters have been read, and a character lies ready. -/
def Read (k : Kn) (p c mi mc n lo : Nat) (L : List Value) (w0 : World) (i : Nat) (v : Value) (w : World) : Prop :=
  i ≤ n ∧ Moved k p (c + 1) i (mi + 1) (mc + 1) L (k.bs p) w0 w ∧ Held k.T lo (c + 1) i v w
theorem Read.upd {k : Kn} {p c mi mc n lo i u m : Nat} {z : Int} {L L1 : List Value} {w0 w w' : World} {v : Value} (hu : Upd k p (c + 1 + i) u m L1 w w') (h24 : L1[24]? = some (.int .i64 (mi + 1 + i : Nat))) (h26 : L1[26]? = some (.int .i64 (mc + 1 + i : Nat))) (h19 : L1[19]? = some (.int .i64 z)) (ho : ∀ j, rdOff j → j ≠ 19 → j ≠ 24 → j ≠ 26 → L1[j]? = L[j]?)
    (hk : Kp (k.bs p) w0 w) (hi : i ≤ n) (hh : Held k.T lo (c + 1) i v w) (hlo : ∀ g, lo ≤ g → g ∉ k.bs p) : Read k p c mi mc n lo L w0 i v w' :=
  ⟨hi, moved_upd hu h24 h26 h19 ho hk (fun _ h => h), by
    obtain ⟨u', bp', bl', L', h1, h2, h3, h4, h5, h6, h7⟩ := hu
    exact hh.kp h6 hlo⟩
set_option maxHeartbeats 16000000 in
set_option maxRecDepth 100000 in
theorem anchor_any (k : Kn) (p c u bp bl mi ml mc t n : Nat) (z kd x : Int) (L : List Value) (w : World) (hr : RoundOk k p) (h : Rdr k p c (u + 1) bp bl L w) (h24 : L[24]? = some (.int .i64 (mi : Nat))) (h25 : L[25]? = some (.int .i64 (ml : Nat))) (h26 : L[26]? = some (.int .i64 (mc : Nat))) (h19 : L[19]? = some (.int .i64 z)) (hmi : mi ≤ 1000000) (hmc : mc ≤ 1000000)
    (hfirst : cw (S k.T c) = 1) (hal : ∀ i, i < n → Al.al (S k.T (c + 1 + i)) = true) (hn1 : 1 ≤ n) (hn2 : n ≤ 8) (hx : S k.T (c + 1 + n) = x) (hend : Al.al x = false) (hx0 : 0 ≤ x) (hx1 : x < 128) (hcl : isBlankz x = true ∨ (isBlankz x = false ∧ (x = 44 ∨ x = 93 ∨ x = 125)))
    (ht : Bk w t 78 tok0) (hft : Far k p t) (hg : 2 < w.heap.size) :
    Calls Tryd.prog 70 #[.pointer (some ⟨p, 0, none⟩), .pointer (some ⟨t, 0, none⟩), .int .i64 kd] w fun e w' => e = .returned (.bool true) ∧ ∃ v, Bk w' t 78 (tok kd mi ml mc (mi + 1 + n : Nat) ml (mc + 1 + n : Nat) 0 v (.slice none 0 0) (.slice none 0 0) 0 0 0) ∧ Held k.T w.heap.size (c + 1) n v w' ∧ Kp (t :: k.bs p) w w' := by
  obtain ⟨c24, f24⟩ := at_ h.pb 24 h24
  obtain ⟨c25, f25⟩ := at_ h.pb 25 h25
  obtain ⟨c26, f26⟩ := at_ h.pb 26 h26
  have hpl := h.pb.lt
  have n1 : ¬ p = w.heap.size := by omega
  have n2 : ¬ w.heap.size = p := by omega
  have H := Lib.hid h
  have HR := Lib.hid hr
  have H24 := Lib.hid h24
  have H25 := Lib.hid h25
  have H26 := Lib.hid h26
  have H19 := Lib.hid h19
  have HAL := Lib.hid hal
  have HX := Lib.hid hx
  have HEND := Lib.hid hend
  have HCL := Lib.hid hcl
  have HT := Lib.hid ht
  have HFT := Lib.hid hft
  have HFI := Lib.hid hfirst
  obtain ⟨ei, HEI⟩ : ∃ x : Int, Hid (((mi + 1 + n : Nat) : Int) = x) := ⟨_, rfl⟩
  obtain ⟨ec, HEC⟩ : ∃ x : Int, Hid (((mc + 1 + n : Nat) : Int) = x) := ⟨_, rfl⟩
  rw [HEI.out, HEC.out]
  clear h hr h24 h25 h26 h19 hal hx hend hcl ht hft hfirst
  go_enter Tryd.func70, Tryd.ntmps70
  try simp only [List.append]
  go_wp2_with fail
  obtain ⟨wa, HWA⟩ : ∃ wa : World, Hid (w.alloc (.cells #[.int .i64 mi, .int .i64 ml, .int .i64 mc] 74) = wa) := ⟨_, rfl⟩
  have hba : Below w.heap.size w wa := by rw [← HWA.out]; exact (Below.refl _ _).alloc (Nat.le_refl _) _
  have hma : Bk wa w.heap.size 74 (tri mi ml mc) := by rw [← HWA.out]; exact Bk.new w (tri mi ml mc) 74
  have hra : Rdr k p c (u + 1) bp bl L wa := rdr_new H.out hba
  have hsa : wa.heap.size = w.heap.size + 1 := by rw [← HWA.out]; simp
  have hu541 := rdr_u hra
  have HBA := Lib.hid hba
  have HMA := Lib.hid hma
  have HRA := Lib.hid hra
  clear hba hma hra c24 f24 c25 f25 c26 f26
  rw [HWA.out]
  refine (skip_any k p c u bp bl mi mc z L wa HRA.out H24.out H26.out H19.out (by omega) (by omega) (by omega)).mono ?_
  rintro e w2 ⟨rfl, hsk⟩
  obtain ⟨L2, hr2, h242, h262, ⟨z2, h192⟩, ho2⟩ := hsk.ex
  have hnx : nx k.T c = c + 1 := by unfold nx; rw [HFI.out]
  rw [hnx] at hr2
  have hk2 : Kp (k.bs p) wa w2 := kp_sub hsk.kp
  have hs2 : w2.heap.size = wa.heap.size := hsk.size
  have ho3 : ∀ j, rdOff j → j ≠ 19 → j ≠ 24 → j ≠ 26 → L2[j]? = L[j]? := fun j j1 j2 j3 j4 => ho2 j (by unfold rdOff at j1; omega) (by unfold rdOff at j1; omega) j2 j3 j4
  have hfg : ∀ g, w.heap.size ≤ g → Far k p g := fun g hg => far_new H.out hg
  obtain ⟨c18, f18⟩ := at_ hr2.pb 18 hr2.at18
  obtain ⟨ub, hub, HUB2⟩ : ∃ b : Bool, decide ((u : Int) < 1) = b ∧ Hid (b = false → 1 ≤ u) := ⟨_, rfl, Lib.hid fun h => by simp at h; omega⟩
  have hg2 : 2 < w2.heap.size := by omega
  have HFG := Lib.hid hfg
  have HR2 := Lib.hid hr2
  have H242 := Lib.hid h242
  have H262 := Lib.hid h262
  have H192 := Lib.hid h192
  have HO3 := Lib.hid ho3
  have HK2 := Lib.hid hk2
  clear hsk hr2 h242 h262 h192 ho2 ho3 hnx hk2 hfg
  go_upto_region 4 with fail
  go_cut [26] from 17 to 26 (fun s26 wx => s26 = .bool false ∧ Read k p c mi mc n wa.heap.size L wa 0 (.slice none 0 0) wx)
  case first =>
    cases ub with
    | false =>
      have hu1 := HUB2.out rfl
      go_wp2_with fail
      go_meet
      case rel => exact ⟨rfl, Nat.zero_le _, ⟨⟨u, _, bl, L2, HR2.out, hu1, H242.out, H262.out, ⟨z2, H192.out⟩, HO3.out⟩, HK2.out⟩, .inl ⟨rfl, rfl⟩⟩
    | true =>
      go_wp2_with fail
      refine (ub_any k p (c + 1) u _ bl 1 L2 w2 HR.out HR2.out (by omega) (by omega) hg2).mono ?_
      rintro e w3 ⟨rfl, hupd⟩
      have HU := Lib.hid (Read.upd (i := 0) (n := n) (v := .slice none 0 0) (lo := wa.heap.size) hupd H242.out H262.out H192.out HO3.out HK2.out (Nat.zero_le _) (.inl ⟨rfl, rfl⟩) (fun g hg => (HFG.out g (by omega)).1))
      clear hupd
      go_wp2_with fail
      go_meet
      case rel => exact ⟨rfl, HU.out⟩
  case rest =>
    obtain ⟨rfl, hst⟩ := hcut
    have HST := Lib.hid hst
    clear hst hub c18 f18 HR2 H242 H262 H192 HO3 HK2
    go_wp2_with fail
    go_loopg [7] n (fun g s7 wr => ∃ i : Nat, g = n - i ∧ Read k p c mi mc n wa.heap.size L wa i s7 wr)
    case atStart => exact ⟨0, rfl, HST.out⟩
    obtain ⟨i, hgk, hin, ⟨⟨u1, bp1, bl1, L1, hr1, hu1, h241, h261, ⟨z1, h191⟩, ho1⟩, hk1⟩, hh⟩ := hrel
    have HGK := Lib.hid hgk
    have hrd1 := hr1.ready 1 hu1
    have hsm1 := hr1.small
    have hge1 := adv_ge k.T (c + 1 + i) 1
    have hby := hr1.byte 0 (by omega)
    rw [Nat.add_zero, Nat.add_zero] at hby
    obtain ⟨y, HY⟩ : ∃ y, Hid (S k.T (c + 1 + i) = y) := ⟨_, rfl⟩
    rw [HY.out] at hby
    have hyb : 0 ≤ y ∧ y ≤ 255 := by
      by_cases hlt : i < n
      · have := al_cw (HAL.out i hlt)
        rw [HY.out] at this
        omega
      · obtain rfl : i = n := by omega
        have e := HY.out
        rw [HX.out] at e
        omega
    have hdc : ∀ N, Calls Tryd.prog 108 #[.slice (some ⟨k.q, 0, none⟩) bl1 1536, .int .i64 bp1] (wr.drewN N) fun e w' => e = .returned (.bool (Al.al y)) ∧ w' = wr.drewN N := fun N => (Al.al_any k.q 0 bl1 1536 bp1 y (by omega) (by omega) hyb.1 hyb.2 (wr.drewN N) (by rw [Nat.zero_add]; exact hby)).mono fun _ _ h => ⟨h.1, h.2.symm⟩
    obtain ⟨c16, f16⟩ := at_ hr1.pb 16 hr1.at16
    obtain ⟨c17, f17⟩ := at_ hr1.pb 17 hr1.at17
    have j1 : (bp1 : Int) < (bl1 : Int) := by omega
    have HR1 := Lib.hid hr1
    have H241 := Lib.hid h241
    have H261 := Lib.hid h261
    have H191 := Lib.hid h191
    have HO1 := Lib.hid ho1
    have HK1 := Lib.hid hk1
    have HH := Lib.hid hh
    have hsz1 := hk1.size
    have hv541 := rdr_u hr1
    have hg1 : 2 < wr.heap.size := by omega
    by_cases hlt : i < n
    · have hal := HAL.out i hlt
      rw [HY.out] at hal
      rw [hal] at hdc
      have hyc := al_cw hal
      have HDC := Lib.hid hdc
      obtain ⟨v, rfl⟩ : ∃ v, u1 = v + 1 := ⟨u1 - 1, by omega⟩
      clear hr1 h241 h261 h191 ho1 hk1 hh hdc hby hrd1 hge1 hgk hal
      go_wp2_with fail
      go_quiet ((go_at_call 108; exact Calls.quiet_of_same (HDC.out _)))
      go_wp2_with fail
      refine (read_al k p (c + 1 + i) v bp1 bl1 (mi + 1 + i) (mc + 1 + i) (c + 1) i wa.heap.size z1 y u7 L1 _ (HR1.out.drewN _) H241.out H261.out H191.out (by omega) (by omega) (by omega) HY.out hyc.1 hyc.2.1 rfl (by omega) (HH.out.kp ((Kp.refl [] wr).drewN _) (by simp)) hsz1 (fun g hg => HFG.out g (by omega))).mono ?_
      rintro e w4 ⟨v4, L4, rfl, hh4, hr4, ⟨h244, h264, ⟨z4, h194⟩, ho4⟩, qs, hkq, hqs⟩
      have hk4 : Kp (k.bs p) wa w4 := Kp.trans_new HK1.out (((Kp.refl _ wr).drewN _).trans hkq) (fun b hb => by
        simp only [List.mem_cons] at hb
        rcases hb with rfl | hb
        · exact .inl (k.mp b)
        · exact .inr (hqs b hb))
      have ho5 : ∀ j, rdOff j → j ≠ 19 → j ≠ 24 → j ≠ 26 → L4[j]? = L[j]? := fun j j1 j2 j3 j4 => by
        rw [ho4 j (by unfold rdOff at j1; omega) (by unfold rdOff at j1; omega) j2 j3 j4]
        exact HO1.out j j1 j2 j3 j4
      have hg4 : 2 < w4.heap.size := by have := hk4.size; omega
      obtain ⟨c18, f18⟩ := at_ hr4.pb 18 hr4.at18
      have HH4 := Lib.hid hh4
      have HR4 := Lib.hid hr4
      have H244 := Lib.hid h244
      have H264 := Lib.hid h264
      have H194 := Lib.hid h194
      have HO5 := Lib.hid ho5
      have HK4 := Lib.hid hk4
      clear hh4 hr4 h244 h264 h194 ho4 ho5 hkq hqs hk4 c16 c17 f16 f17
      by_cases hv0 : v = 0
      · have hub : decide ((v : Int) < 1) = true := by simp; omega
        clear hv0
        go_wp2_with fail
        refine (ub_any k p (c + 1 + (i + 1)) v _ bl1 1 L4 w4 HR.out HR4.out (by omega) (by omega) hg4).mono ?_
        rintro e w5 ⟨rfl, hupd⟩
        have HU := Lib.hid (Read.upd (i := i + 1) (n := n) (v := v4) (lo := wa.heap.size) hupd H244.out H264.out H194.out HO5.out HK4.out (by omega) HH4.out (fun g hg => (HFG.out g (by omega)).1))
        clear hupd
        go_wp2_with fail
        go_roundg (n - (i + 1))
        case measure => have := HGK.out; omega
        case rel => exact ⟨i + 1, rfl, HU.out⟩
      · have hub : decide ((v : Int) < 1) = false := by simp; omega
        have HV := Lib.hid hv0
        clear hv0
        go_wp2_with fail
        go_roundg (n - (i + 1))
        case measure => have := HGK.out; omega
        case rel => exact ⟨i + 1, rfl, by omega, ⟨⟨v, _, bl1, L4, HR4.out, by have := HV.out; omega, H244.out, H264.out, ⟨z4, H194.out⟩, HO5.out⟩, HK4.out⟩, HH4.out⟩
    · obtain rfl : i = n := by omega
      have hyx : y = x := by rw [← HY.out]; exact HX.out
      subst hyx
      rw [HEND.out] at hdc
      have HDC := Lib.hid hdc
      obtain ⟨g, G, rfl, hglo, _, hgb, hgl, hgv, hgy⟩ : ∃ g G, u7 = .slice (some ⟨g, 0, none⟩) i 32 ∧ wa.heap.size ≤ g ∧ 1 ≤ i ∧ Bk wr g 5 G ∧ G.length = 32 ∧ (∀ j, j < i → G[j]? = some (.int .u8 (S k.T (c + 1 + j)))) ∧ ∀ j, j < 32 → ∃ y, G[j]? = some (.int .u8 y) := by
        rcases hh with ⟨h0, _⟩ | h
        · omega
        · exact h
      have hAf := HFG.out w.heap.size (Nat.le_refl _)
      have hA := HMA.out.kp hk1 hAf.1
      have hT := (HT.out.kp (Kp.of_below (ps := []) HBA.out) (by simp)).kp hk1 HFT.out.1
      have e24 : L1[24]? = some (.int .i64 (mi + 1 + i : Nat)) := h241
      have e25 : L1[25]? = some (.int .i64 (ml : Nat)) := (ho1 25 (by unfold rdOff; omega) (by omega) (by omega) (by omega)).trans H25.out
      have e26 := h261
      rw [HEI.out] at e24
      rw [HEC.out] at e26
      have HA := Lib.hid hA
      have HTT := Lib.hid hT
      have HGB := Lib.hid hgb
      have HGV := Lib.hid hgv
      have HGY := Lib.hid hgy
      have HE24 := Lib.hid e24
      have HE25 := Lib.hid e25
      have HE26 := Lib.hid e26
      clear hr1 h241 h261 h191 ho1 hk1 hh hdc hrd1 hge1 hgk hA hT hgb hgv hgy e24 e25 e26 hAf
      go_wp2_with fail
      go_quiet ((go_at_call 108; exact Calls.quiet_of_same (HDC.out _)))
      obtain ⟨wb, HWB⟩ : ∃ wb : World, Hid (wr.drewN nq = wb) := ⟨_, rfl⟩
      rw [HWB.out]
      have hrb : Rdr k p (c + 1 + i) u1 bp1 bl1 L1 wb := by rw [← HWB.out]; exact HR1.out.drewN nq
      have hkb : Kp (k.bs p) wa wb := by rw [← HWB.out]; exact HK1.out.drewN nq
      have hAb : Bk wb w.heap.size 74 (tri mi ml mc) := by rw [← HWB.out]; exact HA.out
      have hTb : Bk wb t 78 tok0 := by rw [← HWB.out]; exact HTT.out
      have hgb : Bk wb g 5 G := by rw [← HWB.out]; exact HGB.out
      have hyb2 : wb.cell? ⟨k.q, bp1, none⟩ = some (.int .u8 y) := by rw [← HWB.out]; exact hby
      have hszb : wb.heap.size = wr.heap.size := by rw [← HWB.out]; rfl
      clear c16 f16 c17 f17 hby HA HTT HGB HR1 HK1 HWB
      obtain ⟨d24, x24⟩ := at_ hrb.pb 24 HE24.out
      obtain ⟨d25, x25⟩ := at_ hrb.pb 25 HE25.out
      obtain ⟨d26, x26⟩ := at_ hrb.pb 26 HE26.out
      have hplb := hrb.pb.lt
      have m1 : ¬ p = wb.heap.size := by omega
      have m2 : ¬ wb.heap.size = p := by omega
      have HRB := Lib.hid hrb
      have HKB := Lib.hid hkb
      have HAB := Lib.hid hAb
      have HTB := Lib.hid hTb
      have HGB := Lib.hid hgb
      have HYB := Lib.hid hyb2
      clear hrb hkb hAb hTb hgb hyb2
      go_upto_region 11 with fail
      obtain ⟨wd, HWD⟩ : ∃ wd : World, Hid (wb.alloc (.cells #[.int .i64 ei, .int .i64 ml, .int .i64 ec] 74) = wd) := ⟨_, rfl⟩
      rw [HWD.out]
      have hbd : Below wb.heap.size wb wd := by rw [← HWD.out]; exact (Below.refl _ _).alloc (Nat.le_refl _) _
      have hEd : Bk wd wr.heap.size 74 (tri ei ml ec) := by
        rw [← HWD.out, ← hszb]
        exact Bk.new wb (tri ei ml ec) 74
      have hrd := rdr_new HRB.out hbd
      have hyd : wd.cell? ⟨k.q, bp1, none⟩ = some (.int .u8 y) := kp_cell (Kp.of_below (ps := []) hbd) HYB.out (by simp)
      obtain ⟨c16, f16⟩ := at_ hrd.pb 16 hrd.at16
      obtain ⟨c17, f17⟩ := at_ hrd.pb 17 hrd.at17
      have hAd : Bk wd w.heap.size 74 (tri mi ml mc) := HAB.out.kp (Kp.of_below (ps := []) hbd) (by simp)
      have hTd : Bk wd t 78 tok0 := HTB.out.kp (Kp.of_below (ps := []) hbd) (by simp)
      have hkd : Kp (k.bs p) wa wd := HKB.out.trans (Kp.of_below hbd)
      have hgd : Bk wd g 5 G := HGB.out.kp (Kp.of_below (ps := []) hbd) (by simp)
      have a0 := (at_ hAd 0 rfl).1
      have a1 := (at_ hAd 1 rfl).1
      have a2 := (at_ hAd 2 rfl).1
      have b0 := (at_ hEd 0 rfl).1
      have b1 := (at_ hEd 1 rfl).1
      have b2 := (at_ hEd 2 rfl).1
      have hbz : ∀ N, Calls Tryd.prog 110 #[.slice (some ⟨k.q, 0, none⟩) bl1 1536, .int .i64 bp1] (wd.drewN N) fun e w' => e = .returned (.bool (isBlankz y)) ∧ w' = wd.drewN N := fun N => blankz_any k.q bp1 bl1 1536 y (wd.drewN N) (by omega) (by omega) hyb.1 (by omega) hyd
      have i0 : ((i : Int) == 0) = false := by rw [beq_eq_false_iff_ne]; omega
      have j0 : (0 : Int) ≤ (bp1 : Int) := by omega
      have HRD := Lib.hid hrd
      have HKD := Lib.hid hkd
      have HAD := Lib.hid hAd
      have HED := Lib.hid hEd
      have HTD := Lib.hid hTd
      have HGD := Lib.hid hgd
      clear hrd hkd hAd hEd hTd hgd hbd HRB HKB HAB HTB HGB HYB d24 x24 d25 x25 d26 x26 hyb
      have hcl := HCL.out
      obtain ⟨tc0, tf0⟩ := at_ HTD.out 0 rfl
      obtain ⟨tc1, tf1⟩ := at_ HTD.out 1 rfl
      obtain ⟨tc2, tf2⟩ := at_ HTD.out 2 rfl
      obtain ⟨tc3, tf3⟩ := at_ HTD.out 3 rfl
      obtain ⟨tc4, tf4⟩ := at_ HTD.out 4 rfl
      obtain ⟨tc5, tf5⟩ := at_ HTD.out 5 rfl
      obtain ⟨tc6, tf6⟩ := at_ HTD.out 6 rfl
      obtain ⟨tc7, tf7⟩ := at_ HTD.out 7 rfl
      obtain ⟨tc8, tf8⟩ := at_ HTD.out 8 rfl
      obtain ⟨tc9, tf9⟩ := at_ HTD.out 9 rfl
      obtain ⟨tc10, tf10⟩ := at_ HTD.out 10 rfl
      obtain ⟨tc11, tf11⟩ := at_ HTD.out 11 rfl
      obtain ⟨tc12, tf12⟩ := at_ HTD.out 12 rfl
      obtain ⟨tc13, tf13⟩ := at_ HTD.out 13 rfl
      have htl := HT.out.lt
      rcases hcl with hz | ⟨hz, rfl | rfl | rfl⟩
      · rw [hz] at hbz
        have HBZ := Lib.hid hbz
        clear hbz hz
        refine wp_region_quiet_lit (by kernel_rfl) (Sp.lexB_quick _ (by kernel_rfl)) ?_
        repeat (go_big_quiet_step ((go_at_call 110; exact Calls.quiet_of_same (HBZ.out _))))
        refine wpQuiet_nil ?_
        rintro _ ⟨nq, rfl⟩
        go_wp2_with fail
        go_ret
        have hT2 := (((((((((((((((show Bk (wd.drewN nq) t 78 tok0 from HTD.out).set 0 (.int .i64 kd)).set 1 (.int .i64 mi)).set 2 (.int .i64 ml)).set 3 (.int .i64 mc)).set 4 (.int .i64 ei)).set 5 (.int .i64 ml)).set 6 (.int .i64 ec)).set 7 (.int .i64 0)).set 8 (.slice (some ⟨g, 0, none⟩) i 32)).set 9 (.slice none 0 0)).set 10 (.slice none 0 0)).set 11 (.int .i8 0)).set 12 (.int .i8 0)).set 13 (.int .i8 0))
        have hk2 := ((((((((((((((((Kp.refl [t] wd).drewN nq).setCell t 0 (.int .i64 kd) (by simp)).setCell t 1 (.int .i64 mi) (by simp)).setCell t 2 (.int .i64 ml) (by simp)).setCell t 3 (.int .i64 mc) (by simp)).setCell t 4 (.int .i64 ei) (by simp)).setCell t 5 (.int .i64 ml) (by simp)).setCell t 6 (.int .i64 ec) (by simp)).setCell t 7 (.int .i64 0) (by simp)).setCell t 8 (.slice (some ⟨g, 0, none⟩) i 32) (by simp)).setCell t 9 (.slice none 0 0) (by simp)).setCell t 10 (.slice none 0 0) (by simp)).setCell t 11 (.int .i8 0) (by simp)).setCell t 12 (.int .i8 0) (by simp)).setCell t 13 (.int .i8 0) (by simp))
        exact ⟨rfl, _, hT2, .inr ⟨g, G, rfl, by omega, hn1, HGD.out.kp hk2 (by simp; omega), hgl, HGV.out, HGY.out⟩, ((Kp.of_below (HBA.out)).trans (HKD.out.mono fun b hb => List.mem_cons_of_mem _ hb)).trans (hk2.mono fun b hb => by simp at hb; simp [hb])⟩
      · rw [hz] at hbz
        have HBZ := Lib.hid hbz
        clear hbz hz
        refine wp_region_quiet_lit (by kernel_rfl) (Sp.lexB_quick _ (by kernel_rfl)) ?_
        repeat (go_big_quiet_step ((go_at_call 110; exact Calls.quiet_of_same (HBZ.out _))))
        refine wpQuiet_nil ?_
        rintro _ ⟨nq, rfl⟩
        go_wp2_with fail
        go_ret
        have hT2 := (((((((((((((((show Bk (wd.drewN nq) t 78 tok0 from HTD.out).set 0 (.int .i64 kd)).set 1 (.int .i64 mi)).set 2 (.int .i64 ml)).set 3 (.int .i64 mc)).set 4 (.int .i64 ei)).set 5 (.int .i64 ml)).set 6 (.int .i64 ec)).set 7 (.int .i64 0)).set 8 (.slice (some ⟨g, 0, none⟩) i 32)).set 9 (.slice none 0 0)).set 10 (.slice none 0 0)).set 11 (.int .i8 0)).set 12 (.int .i8 0)).set 13 (.int .i8 0))
        have hk2 := ((((((((((((((((Kp.refl [t] wd).drewN nq).setCell t 0 (.int .i64 kd) (by simp)).setCell t 1 (.int .i64 mi) (by simp)).setCell t 2 (.int .i64 ml) (by simp)).setCell t 3 (.int .i64 mc) (by simp)).setCell t 4 (.int .i64 ei) (by simp)).setCell t 5 (.int .i64 ml) (by simp)).setCell t 6 (.int .i64 ec) (by simp)).setCell t 7 (.int .i64 0) (by simp)).setCell t 8 (.slice (some ⟨g, 0, none⟩) i 32) (by simp)).setCell t 9 (.slice none 0 0) (by simp)).setCell t 10 (.slice none 0 0) (by simp)).setCell t 11 (.int .i8 0) (by simp)).setCell t 12 (.int .i8 0) (by simp)).setCell t 13 (.int .i8 0) (by simp))
        exact ⟨rfl, _, hT2, .inr ⟨g, G, rfl, by omega, hn1, HGD.out.kp hk2 (by simp; omega), hgl, HGV.out, HGY.out⟩, ((Kp.of_below (HBA.out)).trans (HKD.out.mono fun b hb => List.mem_cons_of_mem _ hb)).trans (hk2.mono fun b hb => by simp at hb; simp [hb])⟩
      · rw [hz] at hbz
        have HBZ := Lib.hid hbz
        clear hbz hz
        refine wp_region_quiet_lit (by kernel_rfl) (Sp.lexB_quick _ (by kernel_rfl)) ?_
        repeat (go_big_quiet_step ((go_at_call 110; exact Calls.quiet_of_same (HBZ.out _))))
        refine wpQuiet_nil ?_
        rintro _ ⟨nq, rfl⟩
        go_wp2_with fail
        go_ret
        have hT2 := (((((((((((((((show Bk (wd.drewN nq) t 78 tok0 from HTD.out).set 0 (.int .i64 kd)).set 1 (.int .i64 mi)).set 2 (.int .i64 ml)).set 3 (.int .i64 mc)).set 4 (.int .i64 ei)).set 5 (.int .i64 ml)).set 6 (.int .i64 ec)).set 7 (.int .i64 0)).set 8 (.slice (some ⟨g, 0, none⟩) i 32)).set 9 (.slice none 0 0)).set 10 (.slice none 0 0)).set 11 (.int .i8 0)).set 12 (.int .i8 0)).set 13 (.int .i8 0))
        have hk2 := ((((((((((((((((Kp.refl [t] wd).drewN nq).setCell t 0 (.int .i64 kd) (by simp)).setCell t 1 (.int .i64 mi) (by simp)).setCell t 2 (.int .i64 ml) (by simp)).setCell t 3 (.int .i64 mc) (by simp)).setCell t 4 (.int .i64 ei) (by simp)).setCell t 5 (.int .i64 ml) (by simp)).setCell t 6 (.int .i64 ec) (by simp)).setCell t 7 (.int .i64 0) (by simp)).setCell t 8 (.slice (some ⟨g, 0, none⟩) i 32) (by simp)).setCell t 9 (.slice none 0 0) (by simp)).setCell t 10 (.slice none 0 0) (by simp)).setCell t 11 (.int .i8 0) (by simp)).setCell t 12 (.int .i8 0) (by simp)).setCell t 13 (.int .i8 0) (by simp))
        exact ⟨rfl, _, hT2, .inr ⟨g, G, rfl, by omega, hn1, HGD.out.kp hk2 (by simp; omega), hgl, HGV.out, HGY.out⟩, ((Kp.of_below (HBA.out)).trans (HKD.out.mono fun b hb => List.mem_cons_of_mem _ hb)).trans (hk2.mono fun b hb => by simp at hb; simp [hb])⟩
      · rw [hz] at hbz
        have HBZ := Lib.hid hbz
        clear hbz hz
        refine wp_region_quiet_lit (by kernel_rfl) (Sp.lexB_quick _ (by kernel_rfl)) ?_
        repeat (go_big_quiet_step ((go_at_call 110; exact Calls.quiet_of_same (HBZ.out _))))
        refine wpQuiet_nil ?_
        rintro _ ⟨nq, rfl⟩
        go_wp2_with fail
        go_ret
        have hT2 := (((((((((((((((show Bk (wd.drewN nq) t 78 tok0 from HTD.out).set 0 (.int .i64 kd)).set 1 (.int .i64 mi)).set 2 (.int .i64 ml)).set 3 (.int .i64 mc)).set 4 (.int .i64 ei)).set 5 (.int .i64 ml)).set 6 (.int .i64 ec)).set 7 (.int .i64 0)).set 8 (.slice (some ⟨g, 0, none⟩) i 32)).set 9 (.slice none 0 0)).set 10 (.slice none 0 0)).set 11 (.int .i8 0)).set 12 (.int .i8 0)).set 13 (.int .i8 0))
        have hk2 := ((((((((((((((((Kp.refl [t] wd).drewN nq).setCell t 0 (.int .i64 kd) (by simp)).setCell t 1 (.int .i64 mi) (by simp)).setCell t 2 (.int .i64 ml) (by simp)).setCell t 3 (.int .i64 mc) (by simp)).setCell t 4 (.int .i64 ei) (by simp)).setCell t 5 (.int .i64 ml) (by simp)).setCell t 6 (.int .i64 ec) (by simp)).setCell t 7 (.int .i64 0) (by simp)).setCell t 8 (.slice (some ⟨g, 0, none⟩) i 32) (by simp)).setCell t 9 (.slice none 0 0) (by simp)).setCell t 10 (.slice none 0 0) (by simp)).setCell t 11 (.int .i8 0) (by simp)).setCell t 12 (.int .i8 0) (by simp)).setCell t 13 (.int .i8 0) (by simp))
        exact ⟨rfl, _, hT2, .inr ⟨g, G, rfl, by omega, hn1, HGD.out.kp hk2 (by simp; omega), hgl, HGV.out, HGY.out⟩, ((Kp.of_below (HBA.out)).trans (HKD.out.mono fun b hb => List.mem_cons_of_mem _ hb)).trans (hk2.mono fun b hb => by simp at hb; simp [hb])⟩
end Go.Proofs.YtocbbekciphjgaaDoor.Sc
/- QiD -/
/- A block scalar's token (yaml_parser_scan_block_scalar): the walk. Printed by genQi.py. -/
namespace Go.Proofs.YtocbbekciphjgaaDoor.Bs
open Go.RowKit Go.Proofs.YtocbbekciphjgaaDoor.Rdp Go.Proofs.YtocbbekciphjgaaDoor.Pa Go.Proofs.YtocbbekciphjgaaDoor.Sc Go.Proofs.YtocbbekciphjgaaDoor.Qd
set_option linter.unusedVariables false
set_option linter.unusedSimpArgs false
set_option maxHeartbeats 32000000 in
set_option maxRecDepth 100000 in
theorem q87 {p t mk ib bb eb : Nat} {li : Bool} {ch : Int} {sv lbv v15 v16 : Value} {a : Act} {w : World} {K : Act → World → Prop} {Q : Exit → Act → World → Prop} (hF : Fq p t mk li ch eb ib bb sv lbv v15 v16 a) {s0 s1 s2 e0 e1 e2 : Int} (hm : Bk w mk 74 [.int .i64 s0, .int .i64 s1, .int .i64 s2]) (he : Bk w eb 74 [.int .i64 e0, .int .i64 e1, .int .i64 e2]) (ht : Bk w t 78 tok0) (hsl : ∃ x n y, sv = .slice x n y)
    (hK : ∀ a' w', Fq p t mk li ch eb ib bb sv lbv v15 v16 a' → Bk w' t 78 (tok 21 s0 s1 s2 e0 e1 e2 0 sv (.slice none 0 0) (.slice none 0 0) 16 0 0) → Kp [t] w w' → K a' w') :
    g87.wp Tryd.prog (Exit.then K Q) a w := by
  obtain ⟨qa0, _⟩ := at_ hm 0 (v := .int .i64 s0) rfl
  obtain ⟨qa1, _⟩ := at_ hm 1 (v := .int .i64 s1) rfl
  obtain ⟨qa2, _⟩ := at_ hm 2 (v := .int .i64 s2) rfl
  obtain ⟨qb0, _⟩ := at_ he 0 (v := .int .i64 e0) rfl
  obtain ⟨qb1, _⟩ := at_ he 1 (v := .int .i64 e1) rfl
  obtain ⟨qb2, _⟩ := at_ he 2 (v := .int .i64 e2) rfl
  obtain ⟨tc0, tf0⟩ := at_ ht 0 rfl
  obtain ⟨tc1, tf1⟩ := at_ ht 1 rfl
  obtain ⟨tc2, tf2⟩ := at_ ht 2 rfl
  obtain ⟨tc3, tf3⟩ := at_ ht 3 rfl
  obtain ⟨tc4, tf4⟩ := at_ ht 4 rfl
  obtain ⟨tc5, tf5⟩ := at_ ht 5 rfl
  obtain ⟨tc6, tf6⟩ := at_ ht 6 rfl
  obtain ⟨tc7, tf7⟩ := at_ ht 7 rfl
  obtain ⟨tc8, tf8⟩ := at_ ht 8 rfl
  obtain ⟨tc9, tf9⟩ := at_ ht 9 rfl
  obtain ⟨tc10, tf10⟩ := at_ ht 10 rfl
  obtain ⟨tc11, tf11⟩ := at_ ht 11 rfl
  obtain ⟨tc12, tf12⟩ := at_ ht 12 rfl
  obtain ⟨tc13, tf13⟩ := at_ ht 13 rfl
  obtain ⟨x, n, y, rfl⟩ := hsl
  have HT := Lib.hid ht
  have HKK := Lib.hid hK
  rw [lit464 a hF.size hF.defers, hF.s0, hF.s1, hF.s2, hF.s7, hF.s8, hF.s10, hF.s11, hF.s12, hF.s13, hF.s14, hF.s15, hF.s16]
  clear hF hK hm he ht
  conv => arg 2; whnf
  go_wp2_with fail
  exact HKK.out _ _ ⟨rfl, rfl, rfl, rfl, rfl, rfl, rfl, rfl, rfl, rfl, rfl, rfl, rfl, rfl⟩ ((((((((((((((HT.out.set 0 (.int .i64 21)).set 1 (.int .i64 s0)).set 2 (.int .i64 s1)).set 3 (.int .i64 s2)).set 4 (.int .i64 e0)).set 5 (.int .i64 e1)).set 6 (.int .i64 e2)).set 7 (.int .i64 0)).set 8 (.slice x n y)).set 9 (.slice none 0 0)).set 10 (.slice none 0 0)).set 11 (.int .i8 16)).set 12 (.int .i8 0)).set 13 (.int .i8 0)) (((((((((((((((Kp.refl [t] w).setCell t 0 (.int .i64 21) (by simp)).setCell t 1 (.int .i64 s0) (by simp)).setCell t 2 (.int .i64 s1) (by simp)).setCell t 3 (.int .i64 s2) (by simp)).setCell t 4 (.int .i64 e0) (by simp)).setCell t 5 (.int .i64 e1) (by simp)).setCell t 6 (.int .i64 e2) (by simp)).setCell t 7 (.int .i64 0) (by simp)).setCell t 8 (.slice x n y) (by simp)).setCell t 9 (.slice none 0 0) (by simp)).setCell t 10 (.slice none 0 0) (by simp)).setCell t 11 (.int .i8 16) (by simp)).setCell t 12 (.int .i8 0) (by simp)).setCell t 13 (.int .i8 0) (by simp))
set_option maxHeartbeats 32000000 in
set_option maxRecDepth 100000 in
theorem q88 {p t mk ib bb eb : Nat} {li : Bool} {ch : Int} {sv lbv v15 v16 : Value} {a : Act} {w : World} {K : Act → World → Prop} {Q : Exit → Act → World → Prop} (hF : Fq p t mk li ch eb ib bb sv lbv v15 v16 a) {s0 s1 s2 e0 e1 e2 : Int} {sv' : Value} (ht : Bk w t 78 (tok 21 s0 s1 s2 e0 e1 e2 0 sv' (.slice none 0 0) (.slice none 0 0) 16 0 0))
    (hK : ∀ a' w', Fq p t mk li ch eb ib bb sv lbv v15 v16 a' → Bk w' t 78 (tok 21 s0 s1 s2 e0 e1 e2 0 sv' (.slice none 0 0) (.slice none 0 0) (if li then 16 else 32) 0 0) → Kp [t] w w' → K a' w') :
    g88.wp Tryd.prog (Exit.then K Q) a w := by
  obtain ⟨tc11, tf11⟩ := at_ ht 11 rfl
  have HT := Lib.hid ht
  have HKK := Lib.hid hK
  rw [lit464 a hF.size hF.defers, hF.s0, hF.s1, hF.s2, hF.s7, hF.s8, hF.s10, hF.s11, hF.s12, hF.s13, hF.s14, hF.s15, hF.s16]
  clear hF hK ht
  conv => arg 2; whnf
  cases li
  · go_wp2_with fail
    exact HKK.out _ _ ⟨rfl, rfl, rfl, rfl, rfl, rfl, rfl, rfl, rfl, rfl, rfl, rfl, rfl, rfl⟩ (HT.out.set 11 (.int .i8 32)) ((Kp.refl [t] w).setCell t 11 (.int .i8 32) (by simp))
  · go_wp2_with fail
    exact HKK.out _ _ ⟨rfl, rfl, rfl, rfl, rfl, rfl, rfl, rfl, rfl, rfl, rfl, rfl, rfl, rfl⟩ HT.out (Kp.refl [t] w)
set_option maxHeartbeats 32000000 in
set_option maxRecDepth 100000 in
theorem q90 {p t mk ib bb eb : Nat} {li : Bool} {ch : Int} {sv lbv v15 v16 : Value} {a : Act} {w : World} {K : Act → World → Prop} {Q : Exit → Act → World → Prop} (hF : Fq p t mk li ch eb ib bb sv lbv v15 v16 a)
    (hK : ∀ a', a'.defers = [] → gt a' 6 = .bool true → Q .ret a' w) :
    g90.wp Tryd.prog (Exit.then K Q) a w := by
  have HKK := Lib.hid hK
  rw [lit464 a hF.size hF.defers, hF.s0, hF.s1, hF.s2, hF.s7, hF.s8, hF.s10, hF.s11, hF.s12, hF.s13, hF.s14, hF.s15, hF.s16]
  clear hF hK
  conv => arg 2; whnf
  go_wp2_with fail
  exact HKK.out _ rfl rfl
end Go.Proofs.YtocbbekciphjgaaDoor.Bs
/- QiE -/
/- Behind the header of a block scalar (yaml_parser_scan_block_scalar): what is laid for its lines, the walks. Printed by genQi.py. -/
namespace Go.Proofs.YtocbbekciphjgaaDoor.Bs
open Go.RowKit Go.Proofs.YtocbbekciphjgaaDoor.Rdp Go.Proofs.YtocbbekciphjgaaDoor.Pa Go.Proofs.YtocbbekciphjgaaDoor.Sc Go.Proofs.YtocbbekciphjgaaDoor.Qd
set_option linter.unusedVariables false
set_option linter.unusedSimpArgs false
set_option maxHeartbeats 32000000 in
set_option maxRecDepth 100000 in
theorem q52 {k : Kn} {p t mk : Nat} {L0 : List Value} {li : Bool} {ch : Int} {inc c u col : Nat} {rest : List Int} {a : Act} {w : World} {K : Act → World → Prop} {Q : Exit → Act → World → Prop} (hF : Fh p t mk li ch inc a) (hA : At k p L0 c u col rest w)
    (hK : ∀ a' w' (e0 e1 e2 : Int), Fh p t mk li ch inc a' → gt a' 10 = .pointer (some ⟨w.heap.size, 0, none⟩) → Bk w' w.heap.size 74 [.int .i64 e0, .int .i64 e1, .int .i64 e2] → Below w.heap.size w w' → w'.heap.size = w.heap.size + 1 → K a' w') :
    g52.wp Tryd.prog (Exit.then K Q) a w := by
  obtain ⟨bp, bl, mi, ml, z, L, g1, h24, h25, h26, h19, m1, m2, m3, ho⟩ := hA.ex
  obtain ⟨c24, f24⟩ := at_ g1.pb 24 h24
  obtain ⟨c25, f25⟩ := at_ g1.pb 25 h25
  obtain ⟨c26, f26⟩ := at_ g1.pb 26 h26
  have HKK := Lib.hid hK
  rw [lit464 a hF.size hF.defers, hF.s0, hF.s1, hF.s2, hF.s7, hF.s8, hF.s9]
  clear hK hF g1 h24 h25 h26 h19 ho hA
  conv => arg 2; whnf
  go_wp2_with fail
  exact HKK.out _ _ _ _ _ ⟨rfl, rfl, rfl, rfl, rfl, rfl, rfl, rfl⟩ rfl (Bk.new w [.int .i64 (mi : Nat), .int .i64 (ml : Nat), .int .i64 (col : Nat)] 74) (below_alloc _ _) (by simp)
set_option maxHeartbeats 32000000 in
set_option maxRecDepth 100000 in
theorem q53 {p t mk : Nat} {li : Bool} {ch : Int} {inc eb : Nat} {a : Act} {w : World} {K : Act → World → Prop} {Q : Exit → Act → World → Prop} (hF : Fh p t mk li ch inc a) (h10 : gt a 10 = .pointer (some ⟨eb, 0, none⟩))
    (hK : ∀ a' w', Fh p t mk li ch inc a' → gt a' 10 = .pointer (some ⟨eb, 0, none⟩) → gt a' 11 = .pointer (some ⟨w.heap.size, 0, none⟩) → Bk w' w.heap.size 3 [.int .i64 0] → Below w.heap.size w w' → w'.heap.size = w.heap.size + 1 → K a' w') :
    g53.wp Tryd.prog (Exit.then K Q) a w := by
  have HKK := Lib.hid hK
  rw [lit464 a hF.size hF.defers, hF.s0, hF.s1, hF.s2, hF.s7, hF.s8, hF.s9, h10]
  clear hK hF h10
  conv => arg 2; whnf
  go_wp2_with fail
  exact HKK.out _ _ ⟨rfl, rfl, rfl, rfl, rfl, rfl, rfl, rfl⟩ rfl rfl (Bk.new w [.int .i64 0] 3) (below_alloc _ _) (by simp)
/-- The indentation, if the header tells it. -/
def ind0 (inc : Nat) (pn : Int) : Nat := if inc = 0 then 0 else (max pn 0).toNat + inc
set_option maxHeartbeats 32000000 in
set_option maxRecDepth 100000 in
theorem qIn {k : Kn} {p t mk : Nat} {L0 : List Value} {li : Bool} {ch : Int} {inc eb ib c u col : Nat} {rest : List Int} {a : Act} {w : World} {K : Act → World → Prop} {Q : Exit → Act → World → Prop} (hF : Fh p t mk li ch inc a) {pn : Int} (hA : At k p L0 c u col rest w) (h10 : gt a 10 = .pointer (some ⟨eb, 0, none⟩)) (h11 : gt a 11 = .pointer (some ⟨ib, 0, none⟩)) (hib : Bk w ib 3 [.int .i64 0]) (h41 : L0[41]? = some (.int .i64 pn)) (hp0 : -1 ≤ pn) (hp1 : pn ≤ 1000000) (hinc : inc ≤ 9) (hne : ib ≠ p)
    (hK : ∀ a' w', Fh p t mk li ch inc a' → gt a' 10 = .pointer (some ⟨eb, 0, none⟩) → gt a' 11 = .pointer (some ⟨ib, 0, none⟩) → Bk w' ib 3 [.int .i64 (ind0 inc pn : Nat)] → Kp [ib] w w' → K a' w') :
    gIn.wp Tryd.prog (Exit.then K Q) a w := by
  obtain ⟨bp, bl, mi, ml, z, L, g1, h24, h25, h26, h19, m1, m2, m3, ho⟩ := hA.ex
  obtain ⟨c41, f41⟩ := at_ g1.pb 41 ((ho 41 (by unfold rdOff; omega) (by omega) (by omega) (by omega) (by omega)).trans h41)
  obtain ⟨ci, fi⟩ := at_ hib 0 rfl
  have n1 : ¬ p = ib := fun e => hne e.symm
  have HIB := Lib.hid hib
  by_cases hi : inc = 0
  · have e1 : decide ((0 : Int) < (inc : Int)) = false := by simp; omega
    have e2 : ¬ ((0 : Int) < (inc : Int)) := by omega
    rw [show ind0 inc pn = 0 by unfold ind0; rw [if_pos hi]] at hK
    have HKK := Lib.hid hK
    rw [lit464 a hF.size hF.defers, hF.s0, hF.s1, hF.s2, hF.s7, hF.s8, hF.s9, h10, h11]
    clear hK hF h10 h11 g1 h24 h25 h26 h19 ho hA hib hi hinc hp0 hp1 c41 f41
    conv => arg 2; whnf
    go_wp2_with fail
    exact HKK.out _ _ ⟨rfl, rfl, rfl, rfl, rfl, rfl, rfl, rfl⟩ rfl rfl HIB.out (Kp.refl _ _)
  · have e1 : decide ((0 : Int) < (inc : Int)) = true := by simp; omega
    have e2 : (0 : Int) < (inc : Int) := by omega
    by_cases hn : 0 ≤ pn
    · have e3 : decide (0 ≤ pn) = true := by simpa using hn
      obtain ⟨q, hq⟩ : ∃ q : Nat, pn + (inc : Int) = (q : Int) := ⟨(pn + inc).toNat, by omega⟩
      have p2 : wrap64 (pn + (inc : Int)) = (q : Int) := by rw [hq]; exact IntWalk.wrap64_in _ (by omega)
      rw [show ind0 inc pn = q by unfold ind0; rw [if_neg hi]; omega] at hK
      have HKK := Lib.hid hK
      rw [lit464 a hF.size hF.defers, hF.s0, hF.s1, hF.s2, hF.s7, hF.s8, hF.s9, h10, h11]
      clear hK hF h10 h11 g1 h24 h25 h26 h19 ho hA hib hi hinc hp0 hp1 hq
      conv => arg 2; whnf
      go_wp2_with fail
      exact HKK.out _ _ ⟨rfl, rfl, rfl, rfl, rfl, rfl, rfl, rfl⟩ rfl rfl (HIB.out.set 0 _) ((Kp.refl _ _).setCell ib 0 _ (by simp))
    · have e3 : decide (0 ≤ pn) = false := by simpa using hn
      rw [show ind0 inc pn = inc by unfold ind0; rw [if_neg hi]; omega] at hK
      have HKK := Lib.hid hK
      rw [lit464 a hF.size hF.defers, hF.s0, hF.s1, hF.s2, hF.s7, hF.s8, hF.s9, h10, h11]
      clear hK hF h10 h11 g1 h24 h25 h26 h19 ho hA hib hi hinc hp0 hp1
      conv => arg 2; whnf
      go_wp2_with fail
      exact HKK.out _ _ ⟨rfl, rfl, rfl, rfl, rfl, rfl, rfl, rfl⟩ rfl rfl (HIB.out.set 0 _) ((Kp.refl _ _).setCell ib 0 _ (by simp))
set_option maxHeartbeats 32000000 in
set_option maxRecDepth 100000 in
theorem q58 {p t mk : Nat} {li : Bool} {ch : Int} {inc eb ib : Nat} {a : Act} {w : World} {K : Act → World → Prop} {Q : Exit → Act → World → Prop} (hF : Fh p t mk li ch inc a) (h10 : gt a 10 = .pointer (some ⟨eb, 0, none⟩)) (h11 : gt a 11 = .pointer (some ⟨ib, 0, none⟩))
    (hK : ∀ a' w' v15 v16, Fq p t mk li ch eb ib w.heap.size (.slice none 0 0) (.slice none 0 0) v15 v16 a' → Bk w' w.heap.size 22 [.slice none 0 0] → Below w.heap.size w w' → w'.heap.size = w.heap.size + 1 → K a' w') :
    g58.wp Tryd.prog (Exit.then K Q) a w := by
  have HKK := Lib.hid hK
  rw [lit464 a hF.size hF.defers, hF.s0, hF.s1, hF.s2, hF.s7, hF.s8, hF.s9, h10, h11]
  clear hK hF h10 h11
  conv => arg 2; whnf
  go_wp2_with fail
  exact HKK.out _ _ _ _ ⟨rfl, rfl, rfl, rfl, rfl, rfl, rfl, rfl, rfl, rfl, rfl, rfl, rfl, rfl⟩ (Bk.new w [.slice none 0 0] 22) (below_alloc _ _) (by simp)
end Go.Proofs.YtocbbekciphjgaaDoor.Bs
