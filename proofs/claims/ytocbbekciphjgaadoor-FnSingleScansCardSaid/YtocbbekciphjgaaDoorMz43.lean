/- QeK, QeL: parts of the proof, one behind another. -/
import Derived.Test.YtocbbekciphjgaaDoorMz42
/- QeK -/
/- What the reference says of a text between double quotes (spec.Double): walked. -/
namespace Go.Proofs.YtocbbekciphjgaaDoor.Dq
open Go.RowKit Go.Proofs.YtocbbekciphjgaaDoor.Pa Go.Proofs.YtocbbekciphjgaaDoor.Sc Go.Proofs.YtocbbekciphjgaaDoor.Qd Go.Proofs.YtocbbekciphjgaaDoor.Rdp Go.Proofs.YtocbbekciphjgaaDoor.Ln
set_option linter.unusedVariables false
set_option linter.unusedSimpArgs false
theorem zs_below {w w' : World} {b : Nat} {zs : List Int} (h : Zs w b zs) (hb : Below w.heap.size w w') : Zs w' b zs := by
  intro j hj
  have h1 := h j hj
  rw [hb.cell (World.block_lt_of_cell? _ _ h1)]
  exact h1
set_option maxHeartbeats 8000000 in
set_option maxRecDepth 100000 in
theorem double_any (s : ByteArray) (w : World) (hs : s.size ≤ 2147483647) (hT : Tabs w) :
    Calls Tryd.prog 19 #[.string s] w fun e w' => DblP s e ∧ Below w.heap.size w w' := by
  have hru := runes_any s w hs hT
  have HRU := Lib.hid hru
  clear hru hT
  go_enter Tryd.func19, Tryd.ntmps19
  go_wp2_with fail
  refine HRU.out.mono ?_
  rintro e w1 ⟨hb1, ⟨hno, rfl⟩ | ⟨⟨hsz, hval⟩, b, cp, rfl, ⟨hcp, hmx⟩, hcell⟩⟩
  · have HB := Lib.hid hb1
    clear hb1 hno
    go_wp2_with fail
    refine bodyPost_ret (by simp [results, Tryd.results19, go_sem]; try rfl) rfl ?_
    exact ⟨.inl ⟨_, rfl⟩, HB.out⟩
  obtain ⟨zs, HZS⟩ : ∃ zs, Hid (rsFrom s s.size 0 = zs) := ⟨_, rfl⟩
  have hlen : zs.length ≤ s.size := by rw [← HZS.out]; exact rs_len s s.size 0
  have hrun : Ln.Run s 0 zs := by
    rw [← HZS.out]
    exact run_of s _ 0 (by omega) (by omega) (by rw [List.drop_zero]; exact hval)
  have hrg : ∀ c ∈ zs, 0 ≤ c ∧ c ≤ 1114111 := by
    rw [← HZS.out]
    exact rs_range s _ _
  have hz : Zs w1 b zs := by
    rw [← HZS.out]
    exact hcell
  rw [HZS.out] at hcp ⊢
  have hall := all_any zs b cp true w1 (by omega) hrg hz
  have HB := Lib.hid hb1
  have HZ := Lib.hid hz
  have HRG := Lib.hid hrg
  have HRUN := Lib.hid hrun
  have HAL := Lib.hid hall
  have HCELL := Lib.hid hcell
  clear hb1 hz hrg hrun hall hcell hval
  obtain ⟨q, hq⟩ : ∃ q, zs.all (okc true) = q := ⟨_, rfl⟩
  rw [hq] at HAL
  have HQ := Lib.hid hq
  clear hq
  cases q
  · go_wp2_with fail
    refine HAL.out.mono ?_
    rintro e w2 ⟨rfl, rfl⟩
    go_wp2_with fail
    refine bodyPost_ret (by simp [results, Tryd.results19, go_sem]; try rfl) rfl ?_
    exact ⟨.inl ⟨_, rfl⟩, HB.out⟩
  go_wp2_with fail
  refine HAL.out.mono ?_
  rintro e w2 ⟨rfl, rfl⟩
  go_wp2_with fail
  have j2 : (zs.length : Int) ≤ (cp : Int) := by omega
  have j3 : (cp : Int) ≤ 9223372036854775807 := by omega
  have j4 : (zs.length : Int) ≤ 65536 := by omega
  have HB1 := Lib.hid (Below.refl w2.heap.size w2)
  go_loopg [6, 7, 8, 9] (zs.length + 2) (fun g s6 s7 s8 s9 wr => ∃ (i : Nat) (A B : ByteArray) (wrong : Bool), g = zs.length + 2 - i ∧ i ≤ zs.length + 1 ∧ s6 = .string A ∧ s7 = .string B ∧ s8 = .bool wrong ∧ s9 = .int .i64 (i : Nat) ∧ A.size + B.size ≤ i * 2000000 ∧ Mid zs i A B wrong ∧ Below w2.heap.size w2 wr)
  case atStart => exact ⟨0, ⟨#[]⟩, ⟨#[]⟩, false, rfl, Nat.zero_le _, rfl, rfl, rfl, rfl, Nat.zero_le _, Mid.start zs, HB1.out⟩
  obtain ⟨i, A, B, wrong, hg, hi, rfl, rfl, rfl, rfl, hAB, hmid, hbl⟩ := hrel
  have hzr : Zs wr b zs := zs_below HZ.out hbl
  have hbt : Below w.heap.size w wr := HB.out.trans (hbl.mono HB.out.size)
  have HBL := Lib.hid hbl
  have HZR := Lib.hid hzr
  have HBT := Lib.hid hbt
  have HG := Lib.hid hg
  have HMID := Lib.hid hmid
  clear hbl hzr hbt hg hmid
  have k0 : (i : Int) ≤ 65537 := by omega
  have k00 : (0 : Int) ≤ (i : Int) := by omega
  by_cases hlt : i < zs.length
  · have k1 : (i : Int) < (zs.length : Int) := by omega
    have hx := HZR.out i hlt
    have hcm : zs.getD i 0 ∈ zs := by
      rw [List.getD_eq_getElem?_getD, List.getElem?_eq_getElem hlt]
      exact List.getElem_mem _
    have hch : Ch (zs.getD i 0) := okc_ch (List.all_eq_true.1 HQ.out _ hcm)
    obtain ⟨c, HX⟩ : ∃ c, Hid (zs.getD i 0 = c) := ⟨_, rfl⟩
    rw [HX.out] at hx hch
    have hcr := Ch.range hch
    obtain ⟨hc0, hc1⟩ := hcr
    have HCH := Lib.hid hch
    clear hcm hch
    by_cases h92 : c = 92
    · by_cases hl1 : i + 1 < zs.length
      · have k2 : (i : Int) + 1 < (zs.length : Int) := by omega
        have hy := HZR.out (i + 1) hl1
        obtain ⟨y, HY⟩ : ∃ y, Hid (zs.getD (i + 1) 0 = y) := ⟨_, rfl⟩
        rw [HY.out] at hy
        by_cases hy10 : y = 10
        · subst hy10
          subst h92
          have hem := empty_any zs b cp (i + 2) wr HZR.out (by omega) hcp ⟨by omega, hmx⟩
          rw [show ((i + 2 : Nat) : Int) = (i : Int) + 2 by omega] at hem
          have HEM := Lib.hid hem
          clear hem
          go_wp2_with fail
          refine HEM.out.mono ?_
          rintro e w3 ⟨h | ⟨n, j, h, h1, h2, h3, h4⟩, m, hw⟩
          · subst h
            have HW := Lib.hid hw
            clear hw
            go_wp2_with fail
            refine bodyPost_ret (by simp [results, Tryd.results19, go_sem]; try rfl) rfl ?_
            refine ⟨.inl ⟨_, rfl⟩, ?_⟩
            rw [HW.out]
            exact HBT.out.trans ((below_drewN _ _).mono HBT.out.size)
          · subst h
            have hf := feeds_any n (by omega) w3
            have HF := Lib.hid hf
            have H4 := Lib.hid h4
            have HW := Lib.hid hw
            have ka : A.size + B.size ≤ 9223372036854775807 := by omega
            have kb : A.size + B.size + (strOfNums (feeds n)).size ≤ 9223372036854775807 := by rw [str_feeds_size]; omega
            clear hf h4 hw
            go_wp2_with fail
            refine HF.out.mono ?_
            rintro e w4 ⟨rfl, hb⟩
            have HBB := Lib.hid hb
            clear hb
            go_wp2_with fail
            go_roundg (zs.length + 2 - j)
            case measure => have := HG.out; omega
            case rel =>
              refine ⟨j, _, _, wrong, rfl, by omega, rfl, rfl, rfl, rfl, ?_, Mid.cut HMID.out hl1 HX.out HY.out h2 H4.out, ?_⟩
              · rw [ByteArray.size_append, ByteArray.size_append, str_feeds_size]
                show A.size + B.size + n + 0 ≤ j * 2000000
                omega
              · have h5 := HBB.out
                rw [HW.out] at h5
                exact HBL.out.trans (((below_drewN wr m).trans h5).mono HBL.out.size)
        have y10 : (y == 10) = false := by rw [beq_eq_false_iff_ne]; exact hy10
        by_cases hy47 : y = 47
        · subst hy47
          subst h92
          go_wp2_with fail
          refine bodyPost_ret (by simp [results, Tryd.results19, go_sem]; try rfl) rfl ?_
          exact ⟨.inl ⟨_, rfl⟩, HBT.out⟩

        have y47 : (y == 47) = false := by rw [beq_eq_false_iff_ne]; exact hy47
        by_cases hy39 : y = 39
        · subst hy39
          subst h92
          go_wp2_with fail
          refine bodyPost_ret (by simp [results, Tryd.results19, go_sem]; try rfl) rfl ?_
          exact ⟨.inl ⟨_, rfl⟩, HBT.out⟩

        have y39 : (y == 39) = false := by rw [beq_eq_false_iff_ne]; exact hy39
        subst h92
        have haw : away (zs.drop (i + 1)) = false := by
          rw [drop_at hl1, HY.out]
          show ((y == 10 || y == 47) || y == 39) = false
          rw [y10, y47, y39]
          rfl
        have HAW := Lib.hid haw
        clear haw

        have hes := escape_any zs b cp i wr HZR.out hlt hcp ⟨by omega, hmx⟩ HRG.out
        have HES := Lib.hid hes
        clear hes
        go_wp2_with fail
        refine HES.out.mono ?_
        rintro e w3 ⟨⟨x, j, rfl, hesc, hj1, hj2, hx0, hx1⟩ | ⟨⟨x, j, rfl⟩, hno⟩, rfl⟩
        · have HESC := Lib.hid hesc
          have hes4 := encode_size_le x
          have ka : A.size + B.size ≤ 9223372036854775807 := by omega
          have kb : A.size + B.size + (Utf8.encode x).size ≤ 9223372036854775807 := by omega
          clear hesc
          go_wp2_with fail
          go_roundg (zs.length + 2 - j)
          case measure => have := HG.out; omega
          case rel =>
            refine ⟨j, _, _, wrong, rfl, by omega, rfl, rfl, rfl, rfl, ?_, Mid.esc HMID.out hlt HX.out HAW.out hj2 HESC.out, HBL.out⟩
            rw [ByteArray.size_append, ByteArray.size_append]
            show A.size + B.size + (Utf8.encode x).size + 0 ≤ j * 2000000
            omega
        · have HNO := Lib.hid hno
          have hes4 := encode_size_le x
          have ka : A.size + B.size ≤ 9223372036854775807 := by omega
          have kb : A.size + B.size + (Utf8.encode x).size ≤ 9223372036854775807 := by omega
          clear hno
          go_wp2_with fail
          go_roundg (zs.length + 2 - (i + 2))
          case measure => have := HG.out; omega
          case rel =>
            refine ⟨i + 2, _, _, true, rfl, by omega, rfl, rfl, rfl, by rw [show ((i + 2 : Nat) : Int) = (i : Int) + 2 by omega], ?_, Mid.bad (j := i + 2) HMID.out hlt HX.out HAW.out HNO.out, HBL.out⟩
            rw [ByteArray.size_append, ByteArray.size_append]
            show A.size + B.size + (Utf8.encode x).size + 0 ≤ (i + 2) * 2000000
            omega
      have k2 : ¬ ((i : Int) + 1 < (zs.length : Int)) := by omega
      subst h92
      have haw : away (zs.drop (i + 1)) = false := by
        rw [List.drop_of_length_le (by omega)]
        rfl
      have HAW := Lib.hid haw
      clear haw

      have hes := escape_any zs b cp i wr HZR.out hlt hcp ⟨by omega, hmx⟩ HRG.out
      have HES := Lib.hid hes
      clear hes
      go_wp2_with fail
      refine HES.out.mono ?_
      rintro e w3 ⟨⟨x, j, rfl, hesc, hj1, hj2, hx0, hx1⟩ | ⟨⟨x, j, rfl⟩, hno⟩, rfl⟩
      · exfalso
        omega
      · have HNO := Lib.hid hno
        have hes4 := encode_size_le x
        have ka : A.size + B.size ≤ 9223372036854775807 := by omega
        have kb : A.size + B.size + (Utf8.encode x).size ≤ 9223372036854775807 := by omega
        clear hno
        go_wp2_with fail
        go_roundg (zs.length + 2 - (i + 2))
        case measure => have := HG.out; omega
        case rel =>
          refine ⟨i + 2, _, _, true, rfl, by omega, rfl, rfl, rfl, by rw [show ((i + 2 : Nat) : Int) = (i : Int) + 2 by omega], ?_, Mid.bad (j := i + 2) HMID.out hlt HX.out HAW.out HNO.out, HBL.out⟩
          rw [ByteArray.size_append, ByteArray.size_append]
          show A.size + B.size + (Utf8.encode x).size + 0 ≤ (i + 2) * 2000000
          omega
    have c92 : (c == 92) = false := by rw [beq_eq_false_iff_ne]; exact h92
    by_cases h10 : c = 10
    · subst h10
      have hem := break_any zs b cp i wr HZR.out hlt hcp ⟨by omega, hmx⟩
      have HEM := Lib.hid hem
      clear hem
      go_wp2_with fail
      refine HEM.out.mono ?_
      rintro e w3 ⟨⟨t, j, h⟩ | ⟨n, j, h, h1, h2, h3, h4⟩, hw⟩
      · subst h
        have HW := Lib.hid hw
        clear hw
        go_wp2_with fail
        refine bodyPost_ret (by simp [results, Tryd.results19, go_sem]; try rfl) rfl ?_
        exact ⟨.inl ⟨_, rfl⟩, HBT.out.trans (HW.out.mono HBT.out.size)⟩
      · subst h
        have H4 := Lib.hid h4
        have HW := Lib.hid hw
        have hfs := str_fold_size n
        have ka : A.size + (strOfNums (fold n)).size ≤ 9223372036854775807 := by omega
        clear h4 hw
        go_wp2_with fail
        go_roundg (zs.length + 2 - j)
        case measure => have := HG.out; omega
        case rel =>
          refine ⟨j, _, _, wrong, rfl, by omega, rfl, rfl, rfl, rfl, ?_, Mid.brk HMID.out hlt HX.out h2 H4.out, HBL.out.trans (HW.out.mono HBL.out.size)⟩
          rw [ByteArray.size_append]
          show A.size + (strOfNums (fold n)).size + 0 ≤ j * 2000000
          omega
    have c10 : (c == 10) = false := by rw [beq_eq_false_iff_ne]; exact h10
    by_cases h34 : c = 34
    · subst h34
      go_wp2_with fail
      refine bodyPost_ret (by simp [results, Tryd.results19, go_sem]; try rfl) rfl ?_
      exact ⟨.inl ⟨_, rfl⟩, HBT.out⟩

    have c34 : (c == 34) = false := by rw [beq_eq_false_iff_ne]; exact h34
    have hwa := fun W => white_any c W
    have hes4 := encode_size_le c
    have ka : A.size + B.size ≤ 9223372036854775807 := by omega
    have ka2 : B.size + (Utf8.encode c).size ≤ 9223372036854775807 := by omega
    have kb : A.size + B.size + (Utf8.encode c).size ≤ 9223372036854775807 := by omega
    obtain ⟨q1, hq1⟩ : ∃ q, wh c = q := ⟨_, rfl⟩
    rw [hq1] at hwa
    have HWA := Lib.hid hwa
    have HQ1 := Lib.hid hq1
    clear hwa hq1
    cases q1
    · go_wp2_with fail
      refine (HWA.out _).mono ?_
      rintro e w3 ⟨rfl, rfl⟩
      go_wp2_with fail
      go_roundg (zs.length + 2 - (i + 1))
      case measure => have := HG.out; omega
      case rel =>
        have hmm := Mid.chr HMID.out hlt (by rw [HX.out]; exact HQ1.out) (by rw [HX.out]; exact h10) (by rw [HX.out]; exact h92) (by rw [HX.out]; exact h34) (by rw [HX.out]; exact HCH.out)
        rw [HX.out] at hmm
        refine ⟨i + 1, _, _, wrong, rfl, by omega, rfl, rfl, rfl, rfl, ?_, hmm, HBL.out⟩
        rw [ByteArray.size_append, ByteArray.size_append]
        show A.size + B.size + (Utf8.encode c).size + 0 ≤ (i + 1) * 2000000
        omega
    · go_wp2_with fail
      refine (HWA.out _).mono ?_
      rintro e w3 ⟨rfl, rfl⟩
      go_wp2_with fail
      go_roundg (zs.length + 2 - (i + 1))
      case measure => have := HG.out; omega
      case rel =>
        have hmm := Mid.wht HMID.out hlt (by rw [HX.out]; exact HQ1.out) (by rw [HX.out]; exact HCH.out)
        rw [HX.out] at hmm
        refine ⟨i + 1, _, _, wrong, rfl, by omega, rfl, rfl, rfl, rfl, ?_, hmm, HBL.out⟩
        rw [ByteArray.size_append]
        show A.size + (B.size + (Utf8.encode c).size) ≤ (i + 1) * 2000000
        omega
  have k1 : ¬ ((i : Int) < (zs.length : Int)) := by omega
  have hzz : s = strOfNums (us zs) := str_us HRUN.out (fun c hc => okc_ch (List.all_eq_true.1 HQ.out c hc))
  have hcc : ∀ c ∈ zs, Ch c := fun c hc => okc_ch (List.all_eq_true.1 HQ.out c hc)
  have HZZ := Lib.hid hzz
  have HCC := Lib.hid hcc
  have ka : A.size + B.size ≤ 9223372036854775807 := by omega
  clear hzz hcc
  cases wrong
  · obtain ⟨v, hv1, hv2⟩ := HMID.out.out (by omega)
    have HV1 := Lib.hid hv1
    have HV2 := Lib.hid hv2
    clear hv1 hv2
    go_wp2_with fail
    refine bodyPost_ret (by simp [results, Tryd.results19, go_sem]; try rfl) rfl ?_
    refine ⟨.inr ⟨zs, HZZ.out, HCC.out, by omega, hsz, .inr ⟨v, ?_, HV2.out⟩⟩, HBT.out⟩
    rw [← HV1.out]
  · have hv := HMID.out.wrong
    have HV := Lib.hid hv
    clear hv
    go_wp2_with fail
    refine bodyPost_ret (by simp [results, Tryd.results19, go_sem]; try rfl) rfl ?_
    exact ⟨.inr ⟨zs, HZZ.out, HCC.out, by omega, hsz, .inl ⟨_, rfl, HV.out⟩⟩, HBT.out⟩
end Go.Proofs.YtocbbekciphjgaaDoor.Dq
/- QeL -/
/- What the reference says of a text between single quotes (spec.Single): walked. -/
namespace Go.Proofs.YtocbbekciphjgaaDoor.Dq
open Go.RowKit Go.Proofs.YtocbbekciphjgaaDoor.Pa Go.Proofs.YtocbbekciphjgaaDoor.Sc Go.Proofs.YtocbbekciphjgaaDoor.Qd Go.Proofs.YtocbbekciphjgaaDoor.Rdp Go.Proofs.YtocbbekciphjgaaDoor.Ln
set_option linter.unusedVariables false
set_option linter.unusedSimpArgs false
/-- What spec.Single says of a text. -/
def SglP (s : ByteArray) (e : Ending) : Prop :=
  (∃ t, e = .returned (.tuple #[.string t, .int .i64 0])) ∨
  ∃ zs : List Int, s = strOfNums (us zs) ∧ (∀ c ∈ zs, Ch c) ∧ zs.length ≤ 65536 ∧ s.size ≤ 65536 ∧ ∃ v : List Int, e = .returned (.tuple #[.string (strOfNums (us v)), .int .i64 2]) ∧ Sgl zs [] [] v
/-- What holds when the loop has come to i. -/
def Mis (zs : List Int) (i : Nat) (A B : ByteArray) : Prop :=
  i ≤ zs.length ∧ ∃ out white : List Int, A = strOfNums (us out) ∧ B = strOfNums (us white) ∧ ∀ v, Sgl (zs.drop i) out white v → Sgl zs [] [] v
theorem Mis.brk {zs : List Int} {i n j : Nat} {A B : ByteArray} (h : Mis zs i A B) (h1 : i < zs.length) (hc : zs.getD i 0 = 10) (hj : j ≤ zs.length) (he : Emp (zs.drop (i + 1)) n (zs.drop j)) : Mis zs j (A ++ strOfNums (fold n)) ⟨#[]⟩ := by
  obtain ⟨hi, out, white, ha, hb, hD⟩ := h
  refine ⟨hj, out ++ fold n, [], str_us1 ha (by rw [us_fold]), empty_us, fun v hv => hD v ?_⟩
  rw [drop_at (by omega), hc]
  exact .brk he hv
theorem Mis.wht {zs : List Int} {i : Nat} {A B : ByteArray} (h : Mis zs i A B) (h1 : i < zs.length) (hc : wh (zs.getD i 0) = true) (hch : Ch (zs.getD i 0)) : Mis zs (i + 1) A (B ++ Utf8.encode (zs.getD i 0)) := by
  obtain ⟨hi, out, white, ha, hb, hD⟩ := h
  refine ⟨h1, out, white ++ [zs.getD i 0], ha, str_us1 hb (enc_us (vr_of_ch hch)), fun v hv => hD v ?_⟩
  rw [drop_at h1]
  exact .wht hc hv
theorem Mis.chr {zs : List Int} {i : Nat} {A B : ByteArray} (h : Mis zs i A B) (h1 : i < zs.length) (hc : wh (zs.getD i 0) = false) (h10 : zs.getD i 0 ≠ 10) (h39 : zs.getD i 0 ≠ 39) (hch : Ch (zs.getD i 0)) : Mis zs (i + 1) (A ++ B ++ Utf8.encode (zs.getD i 0)) ⟨#[]⟩ := by
  obtain ⟨hi, out, white, ha, hb, hD⟩ := h
  refine ⟨h1, out ++ white ++ [zs.getD i 0], [], str_us2 ha hb (enc_us (vr_of_ch hch)), empty_us, fun v hv => hD v ?_⟩
  rw [drop_at h1]
  exact .chr hc h10 h39 hv
theorem one_q : ByteArray.mk #[39] = strOfNums (us [39]) := rfl
theorem Mis.two {zs : List Int} {i : Nat} {A B : ByteArray} (h : Mis zs i A B) (h1 : i + 1 < zs.length) (hc : zs.getD i 0 = 39) (hd : zs.getD (i + 1) 0 = 39) : Mis zs (i + 2) (A ++ B ++ ⟨#[39]⟩) ⟨#[]⟩ := by
  obtain ⟨hi, out, white, ha, hb, hD⟩ := h
  refine ⟨h1, out ++ white ++ [39], [], str_us2 ha hb one_q, empty_us, fun v hv => hD v ?_⟩
  rw [drop_at (by omega), drop_at (by omega), hc, hd]
  exact .two hv
theorem Mis.out {zs : List Int} {i : Nat} {A B : ByteArray} (h : Mis zs i A B) (hi : zs.length ≤ i) : ∃ v, A ++ B = strOfNums (us v) ∧ Sgl zs [] [] v := by
  obtain ⟨hi', out, white, ha, hb, hD⟩ := h
  refine ⟨out ++ white, str_us1 ha hb, hD _ ?_⟩
  rw [List.drop_of_length_le hi]
  exact .done
theorem Mis.start (zs : List Int) : Mis zs 0 ⟨#[]⟩ ⟨#[]⟩ := by
  refine ⟨Nat.zero_le _, [], [], empty_us, empty_us, fun v hv => ?_⟩
  rw [List.drop_zero] at hv
  exact hv
set_option maxHeartbeats 8000000 in
set_option maxRecDepth 100000 in
theorem single_any (s : ByteArray) (w : World) (hs : s.size ≤ 2147483647) (hT : Tabs w) :
    Calls Tryd.prog 22 #[.string s] w fun e w' => SglP s e ∧ Below w.heap.size w w' := by
  have hru := runes_any s w hs hT
  have HRU := Lib.hid hru
  clear hru hT
  go_enter Tryd.func22, Tryd.ntmps22
  go_wp2_with fail
  refine HRU.out.mono ?_
  rintro e w1 ⟨hb1, ⟨hno, rfl⟩ | ⟨⟨hsz, hval⟩, b, cp, rfl, ⟨hcp, hmx⟩, hcell⟩⟩
  · have HB := Lib.hid hb1
    clear hb1 hno
    go_wp2_with fail
    refine bodyPost_ret (by simp [results, Tryd.results22, go_sem]; try rfl) rfl ?_
    exact ⟨.inl ⟨_, rfl⟩, HB.out⟩
  obtain ⟨zs, HZS⟩ : ∃ zs, Hid (rsFrom s s.size 0 = zs) := ⟨_, rfl⟩
  have hlen : zs.length ≤ s.size := by rw [← HZS.out]; exact rs_len s s.size 0
  have hrun : Ln.Run s 0 zs := by
    rw [← HZS.out]
    exact run_of s _ 0 (by omega) (by omega) (by rw [List.drop_zero]; exact hval)
  have hrg : ∀ c ∈ zs, 0 ≤ c ∧ c ≤ 1114111 := by
    rw [← HZS.out]
    exact rs_range s _ _
  have hz : Zs w1 b zs := by
    rw [← HZS.out]
    exact hcell
  rw [HZS.out] at hcp ⊢
  have hall := all_any zs b cp true w1 (by omega) hrg hz
  have HB := Lib.hid hb1
  have HZ := Lib.hid hz
  have HRG := Lib.hid hrg
  have HRUN := Lib.hid hrun
  have HAL := Lib.hid hall
  have HCELL := Lib.hid hcell
  clear hb1 hz hrg hrun hall hcell hval
  obtain ⟨q, hq⟩ : ∃ q, zs.all (okc true) = q := ⟨_, rfl⟩
  rw [hq] at HAL
  have HQ := Lib.hid hq
  clear hq
  cases q
  · go_wp2_with fail
    refine HAL.out.mono ?_
    rintro e w2 ⟨rfl, rfl⟩
    go_wp2_with fail
    refine bodyPost_ret (by simp [results, Tryd.results22, go_sem]; try rfl) rfl ?_
    exact ⟨.inl ⟨_, rfl⟩, HB.out⟩
  go_wp2_with fail
  refine HAL.out.mono ?_
  rintro e w2 ⟨rfl, rfl⟩
  go_wp2_with fail
  have j2 : (zs.length : Int) ≤ (cp : Int) := by omega
  have j3 : (cp : Int) ≤ 9223372036854775807 := by omega
  have j4 : (zs.length : Int) ≤ 65536 := by omega
  have HB1 := Lib.hid (Below.refl w2.heap.size w2)
  go_loopg [6, 7, 8] (zs.length + 2) (fun g s6 s7 s8 wr => ∃ (i : Nat) (A B : ByteArray), g = zs.length + 2 - i ∧ i ≤ zs.length + 1 ∧ s6 = .string A ∧ s7 = .string B ∧ s8 = .int .i64 (i : Nat) ∧ A.size + B.size ≤ i * 2000000 ∧ Mis zs i A B ∧ Below w2.heap.size w2 wr)
  case atStart => exact ⟨0, ⟨#[]⟩, ⟨#[]⟩, rfl, Nat.zero_le _, rfl, rfl, rfl, Nat.zero_le _, Mis.start zs, HB1.out⟩
  obtain ⟨i, A, B, hg, hi, rfl, rfl, rfl, hAB, hmid, hbl⟩ := hrel
  have hzr : Zs wr b zs := zs_below HZ.out hbl
  have hbt : Below w.heap.size w wr := HB.out.trans (hbl.mono HB.out.size)
  have HBL := Lib.hid hbl
  have HZR := Lib.hid hzr
  have HBT := Lib.hid hbt
  have HG := Lib.hid hg
  have HMID := Lib.hid hmid
  clear hbl hzr hbt hg hmid
  have k0 : (i : Int) ≤ 65537 := by omega
  have k00 : (0 : Int) ≤ (i : Int) := by omega
  by_cases hlt : i < zs.length
  · have k1 : (i : Int) < (zs.length : Int) := by omega
    have hx := HZR.out i hlt
    have hcm : zs.getD i 0 ∈ zs := by
      rw [List.getD_eq_getElem?_getD, List.getElem?_eq_getElem hlt]
      exact List.getElem_mem _
    have hch : Ch (zs.getD i 0) := okc_ch (List.all_eq_true.1 HQ.out _ hcm)
    obtain ⟨c, HX⟩ : ∃ c, Hid (zs.getD i 0 = c) := ⟨_, rfl⟩
    rw [HX.out] at hx hch
    have hcr := Ch.range hch
    obtain ⟨hc0, hc1⟩ := hcr
    have HCH := Lib.hid hch
    clear hcm hch
    by_cases h10 : c = 10
    · subst h10
      have hem := break_any zs b cp i wr HZR.out hlt hcp ⟨by omega, hmx⟩
      have HEM := Lib.hid hem
      clear hem
      go_wp2_with fail
      refine HEM.out.mono ?_
      rintro e w3 ⟨⟨t, j, h⟩ | ⟨n, j, h, h1, h2, h3, h4⟩, hw⟩
      · subst h
        have HW := Lib.hid hw
        clear hw
        go_wp2_with fail
        refine bodyPost_ret (by simp [results, Tryd.results22, go_sem]; try rfl) rfl ?_
        exact ⟨.inl ⟨_, rfl⟩, HBT.out.trans (HW.out.mono HBT.out.size)⟩
      · subst h
        have H4 := Lib.hid h4
        have HW := Lib.hid hw
        have hfs := str_fold_size n
        have ka : A.size + (strOfNums (fold n)).size ≤ 9223372036854775807 := by omega
        clear h4 hw
        go_wp2_with fail
        go_roundg (zs.length + 2 - j)
        case measure => have := HG.out; omega
        case rel =>
          refine ⟨j, _, _, rfl, by omega, rfl, rfl, rfl, ?_, Mis.brk HMID.out hlt HX.out h2 H4.out, HBL.out.trans (HW.out.mono HBL.out.size)⟩
          rw [ByteArray.size_append]
          show A.size + (strOfNums (fold n)).size + 0 ≤ j * 2000000
          omega
    have c10 : (c == 10) = false := by rw [beq_eq_false_iff_ne]; exact h10
    have hwa := fun W => white_any c W
    have hes4 := encode_size_le c
    have ka : A.size + B.size ≤ 9223372036854775807 := by omega
    have ka2 : B.size + (Utf8.encode c).size ≤ 9223372036854775807 := by omega
    have kb : A.size + B.size + (Utf8.encode c).size ≤ 9223372036854775807 := by omega
    obtain ⟨q1, hq1⟩ : ∃ q, wh c = q := ⟨_, rfl⟩
    rw [hq1] at hwa
    have HWA := Lib.hid hwa
    have HQ1 := Lib.hid hq1
    clear hwa hq1
    cases q1
    · by_cases h39 : c = 39
      · subst h39
        by_cases hl1 : i + 1 < zs.length
        · have k2 : ((i : Int) + 1 == (zs.length : Int)) = false := by rw [beq_eq_false_iff_ne]; omega
          have k3 : (i : Int) + 1 < (zs.length : Int) := by omega
          have hy := HZR.out (i + 1) hl1
          obtain ⟨y, HY⟩ : ∃ y, Hid (zs.getD (i + 1) 0 = y) := ⟨_, rfl⟩
          rw [HY.out] at hy
          by_cases hy39 : y = 39
          · subst hy39
            have kq : (ByteArray.mk #[39]).size = 1 := rfl
            have kc : A.size + B.size + 1 ≤ 9223372036854775807 := by omega
            have kd : A.size + B.size + (ByteArray.mk #[39]).size ≤ 9223372036854775807 := by omega
            go_wp2_with fail
            refine (HWA.out _).mono ?_
            rintro e w3 ⟨rfl, rfl⟩
            go_wp2_with fail
            go_roundg (zs.length + 2 - (i + 2))
            case measure => have := HG.out; omega
            case rel =>
              refine ⟨i + 2, _, _, rfl, by omega, rfl, rfl, by rw [show ((i + 2 : Nat) : Int) = (i : Int) + 2 by omega], ?_, Mis.two HMID.out hl1 HX.out HY.out, HBL.out⟩
              rw [ByteArray.size_append, ByteArray.size_append]
              show A.size + B.size + 1 + 0 ≤ (i + 2) * 2000000
              omega
          · have y39 : (y != 39) = true := by rw [bne_iff_ne]; exact hy39
            go_wp2_with fail
            refine (HWA.out _).mono ?_
            rintro e w3 ⟨rfl, rfl⟩
            go_wp2_with fail
            refine bodyPost_ret (by simp [results, Tryd.results22, go_sem]; try rfl) rfl ?_
            exact ⟨.inl ⟨_, rfl⟩, HBT.out⟩
        · have k2 : ((i : Int) + 1 == (zs.length : Int)) = true := by rw [beq_iff_eq]; omega
          go_wp2_with fail
          refine (HWA.out _).mono ?_
          rintro e w3 ⟨rfl, rfl⟩
          go_wp2_with fail
          refine bodyPost_ret (by simp [results, Tryd.results22, go_sem]; try rfl) rfl ?_
          exact ⟨.inl ⟨_, rfl⟩, HBT.out⟩
      have c39 : (c == 39) = false := by rw [beq_eq_false_iff_ne]; exact h39
      go_wp2_with fail
      refine (HWA.out _).mono ?_
      rintro e w3 ⟨rfl, rfl⟩
      go_wp2_with fail
      go_roundg (zs.length + 2 - (i + 1))
      case measure => have := HG.out; omega
      case rel =>
        have hmm := Mis.chr HMID.out hlt (by rw [HX.out]; exact HQ1.out) (by rw [HX.out]; exact h10) (by rw [HX.out]; exact h39) (by rw [HX.out]; exact HCH.out)
        rw [HX.out] at hmm
        refine ⟨i + 1, _, _, rfl, by omega, rfl, rfl, rfl, ?_, hmm, HBL.out⟩
        rw [ByteArray.size_append, ByteArray.size_append]
        show A.size + B.size + (Utf8.encode c).size + 0 ≤ (i + 1) * 2000000
        omega
    · go_wp2_with fail
      refine (HWA.out _).mono ?_
      rintro e w3 ⟨rfl, rfl⟩
      go_wp2_with fail
      go_roundg (zs.length + 2 - (i + 1))
      case measure => have := HG.out; omega
      case rel =>
        have hmm := Mis.wht HMID.out hlt (by rw [HX.out]; exact HQ1.out) (by rw [HX.out]; exact HCH.out)
        rw [HX.out] at hmm
        refine ⟨i + 1, _, _, rfl, by omega, rfl, rfl, rfl, ?_, hmm, HBL.out⟩
        rw [ByteArray.size_append]
        show A.size + (B.size + (Utf8.encode c).size) ≤ (i + 1) * 2000000
        omega
  have k1 : ¬ ((i : Int) < (zs.length : Int)) := by omega
  have hzz : s = strOfNums (us zs) := str_us HRUN.out (fun c hc => okc_ch (List.all_eq_true.1 HQ.out c hc))
  have hcc : ∀ c ∈ zs, Ch c := fun c hc => okc_ch (List.all_eq_true.1 HQ.out c hc)
  have HZZ := Lib.hid hzz
  have HCC := Lib.hid hcc
  have ka : A.size + B.size ≤ 9223372036854775807 := by omega
  clear hzz hcc
  obtain ⟨v, hv1, hv2⟩ := HMID.out.out (by omega)
  have HV1 := Lib.hid hv1
  have HV2 := Lib.hid hv2
  clear hv1 hv2
  go_wp2_with fail
  refine bodyPost_ret (by simp [results, Tryd.results22, go_sem]; try rfl) rfl ?_
  refine ⟨.inr ⟨zs, HZZ.out, HCC.out, by omega, hsz, v, ?_, HV2.out⟩, HBT.out⟩
  rw [← HV1.out]
end Go.Proofs.YtocbbekciphjgaaDoor.Dq
