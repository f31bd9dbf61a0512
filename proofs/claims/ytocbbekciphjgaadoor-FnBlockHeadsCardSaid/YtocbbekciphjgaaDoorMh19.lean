/- QmB, QmC, Zz: parts of the proof, one behind another. -/
import Derived.Test.YtocbbekciphjgaaDoorRows
import Derived.ChangeSame
import Derived.ChangeVars
import Derived.JoinedOf
import Derived.RowKit
import Derived.RowKitTokens
import Derived.LaidLaws
import Derived.LaidHandle
import Derived.Stop.ErrReads
import Derived.Stop.Joined
import Derived.Test.YtocbbekciphjgaaDoorMh5
import Derived.Test.YtocbbekciphjgaaDoorMh18
/- QmB -/
/- FnBlockHeads: the law's walk (a block scalar's header is read as the reference says). Printed by genQmB.py. -/
namespace Go.Proofs.YtocbbekciphjgaaDoor.Bh
open Go.RowKit Go.Proofs.YtocbbekciphjgaaDoor.Rdp Go.Proofs.YtocbbekciphjgaaDoor.Pa Go.Proofs.YtocbbekciphjgaaDoor.Sc Go.Proofs.YtocbbekciphjgaaDoor.Qd Go.Proofs.YtocbbekciphjgaaDoor.Bs Go.Proofs.YtocbbekciphjgaaDoor.Dq Go.Proofs.YtocbbekciphjgaaDoor.Ln Go.Proofs.YtocbbekciphjgaaDoor.Bk2 Go.Proofs.YtocbbekciphjgaaDoor.Hr
set_option linter.unusedVariables false
set_option linter.unusedSimpArgs false
set_option maxHeartbeats 16000000 in
set_option maxRecDepth 100000 in
theorem heads_law (s : ByteArray) (fold : Bool) (hs : s.size ≤ 2147483647) (w : World) (E : Value) (hE : w.cell? ⟨2, 0, none⟩ = some E) (hEof : IsEof E) (hT : Tabs w) :
    Calls Tryd.prog 9 #[.string s, .bool fold] w fun e w' => e = .returned (.bool true) ∧ Below w.heap.size w w' := by
  have hg : 2 < w.heap.size := World.block_lt_of_cell? w ⟨2, 0, none⟩ hE
  have h0 : decide (2147483647 < (s.size : Int)) = false := by simp; omega
  have h0' : decide (2147483647 < s.size) = false := by simp; omega
  have hro := row_any s w hs hT
  have HRO := Lib.hid hro
  have HE := Lib.hid hE
  have HEE := Lib.hid hEof
  have HTB := Lib.hid hT
  clear hro hE hEof hT
  by_cases hk : 1000 < s.size
  · have h1 : decide (1000 < (s.size : Int)) = true := by simp; omega
    have h1' : decide (1000 < s.size) = true := by simp; omega
    go_enter Tryd.func9, Tryd.ntmps9
    go_wp2_with fail
    go_ret
    exact ⟨rfl, Below.refl _ _⟩
  have h1 : decide (1000 < (s.size : Int)) = false := by simp; omega
  have h1' : decide (1000 < s.size) = false := by simp; omega
  go_enter Tryd.func9, Tryd.ntmps9
  go_wp2_with fail
  refine HRO.out.mono ?_
  rintro e w1 ⟨⟨b, rfl⟩, hb1⟩
  have HB1 := Lib.hid hb1
  clear hb1 HRO
  cases b
  · go_wp2_with fail
    go_ret
    exact ⟨rfl, HB1.out⟩
  have hhd := header_any s w1 hs (tabs_below HTB.out HB1.out)
  have HHD := Lib.hid hhd
  clear hhd
  go_wp2_with fail
  refine HHD.out.mono ?_
  rintro e w2 ⟨⟨x, y, rfl⟩ | ⟨hdp, ⟨hsz, hval⟩, hall⟩, hb2⟩
  · have HB2 := Lib.hid (HB1.out.trans (hb2.mono HB1.out.size))
    clear hb2
    go_wp2_with fail
    go_ret
    exact ⟨rfl, HB2.out⟩
  have HB2 := Lib.hid (HB1.out.trans (hb2.mono HB1.out.size))
  have hch : ∀ c ∈ rsFrom s s.size 0, Ch c := fun c hc => okc_ch (okc_up (List.all_eq_true.1 hall c hc))
  have hzs := str_us (run_of s _ 0 (by omega) (by omega) (by rw [List.drop_zero]; exact hval)) hch
  obtain ⟨zs, HZ⟩ : ∃ zs, Hid (rsFrom s s.size 0 = zs) := ⟨_, rfl⟩
  rw [HZ.out] at hdp hch hzs
  have HCH := Lib.hid hch
  have HZS := Lib.hid hzs
  clear hb2 hval hall hch hzs HHD
  rcases hdp with ⟨x, y, rfl⟩ | ⟨rfl, hbad⟩ | ⟨ch, inc, rfl, hc3, hinc, hsay⟩
  · go_wp2_with fail
    go_ret
    exact ⟨rfl, HB2.out⟩
  · cases fold
    · have hw1 := HB2.out.size
      have hT : strOfNums [124] ++ s ++ strOfNums tl = strOfNums (us (124 :: (zs ++ tl))) := by rw [HZS.out, t_str 124 (by decide)]
      obtain ⟨T, HT⟩ : ∃ T, Hid (us (124 :: (zs ++ tl)) = T) := ⟨_, Lib.hid rfl⟩
      rw [HT.out] at hT
      have hch2 := t_ch (q := 124) (by unfold Ch; omega) HCH.out
      have hTb : ∀ x, x ∈ T → 0 ≤ x ∧ x < 256 := by
        rw [← HT.out]
        exact Dq.us_byte hch2
      have hTl : T.length ≤ 1100 := by
        have h1 := congrArg ByteArray.size hT
        have h2 : tl.length = 14 := rfl
        rw [str_size, ByteArray.size_append, ByteArray.size_append, str_size, str_size] at h1
        simp only [List.length_cons, List.length_nil] at h1
        omega
      obtain ⟨cc, w4, hrun, hcap, hb4, hin4, hs4⟩ := conv_str T hTb w2
      rw [← hT, show strOfNums [124] = ⟨#[124]⟩ from rfl, tl_str] at hrun
      have hbw4 : Below w.heap.size w w4 := HB2.out.trans (hb4.mono hw1)
      have hE4 : w4.cell? ⟨2, 0, none⟩ = some E := by rw [hbw4.cell (p := ⟨2, 0, none⟩) hg]; exact HE.out
      have hB : Begun (some ⟨w2.heap.size, 0, none⟩) T cc E 124 (zs ++ tl) w4 := ⟨hE4, HEE.out, hin4, HT.out.symm, by decide, hch2, t_last _ _, by omega, hcap⟩
      have hv := lit_bad (some ⟨w2.heap.size, 0, none⟩) T cc E 124 (zs ++ tl) w4 hB 0 (by omega) (by omega) (block_bad hbad false)
      simp only [full, nine] at hv
      have hsz1 : (ByteArray.mk #[124]).size + s.size ≤ 9223372036854775807 := by
        show 1 + s.size ≤ _
        omega
      have hsz2 : (ByteArray.mk #[124]).size + s.size + (ByteArray.mk #[10, 32, 32, 32, 32, 32, 32, 32, 32, 32, 32, 97, 10, 10]).size ≤ 9223372036854775807 := by
        show 1 + s.size + 14 ≤ _
        omega
      have HV := Lib.hid hv
      have HBW4 := Lib.hid hbw4
      have HSG := fun W => Lib.hid (sign_lit W)
      clear hb4 hin4 hE4 hv hbw4 hB hch2 hTb hT
      go_wp2_with fail
      refine (HSG _).out.mono ?_
      rintro e w3 ⟨rfl, rfl⟩
      go_wp2_with fail
      refine HV.out.mono ?_
      rintro e w5 ⟨⟨a0, a1, a2, b0, b1, b2, z2, z3, rfl⟩, hb5⟩
      have HB5 := Lib.hid (HBW4.out.trans (hb5.mono HBW4.out.size))
      clear hb5 hrun
      go_wp2_with fail
      go_ret
      have hlw := HB5.out.size
      exact ⟨rfl, (HB5.out.alloc hlw _).alloc (by rw [World.size_alloc]; omega) _⟩
    · have hw1 := HB2.out.size
      have hT : strOfNums [62] ++ s ++ strOfNums tl = strOfNums (us (62 :: (zs ++ tl))) := by rw [HZS.out, t_str 62 (by decide)]
      obtain ⟨T, HT⟩ : ∃ T, Hid (us (62 :: (zs ++ tl)) = T) := ⟨_, Lib.hid rfl⟩
      rw [HT.out] at hT
      have hch2 := t_ch (q := 62) (by unfold Ch; omega) HCH.out
      have hTb : ∀ x, x ∈ T → 0 ≤ x ∧ x < 256 := by
        rw [← HT.out]
        exact Dq.us_byte hch2
      have hTl : T.length ≤ 1100 := by
        have h1 := congrArg ByteArray.size hT
        have h2 : tl.length = 14 := rfl
        rw [str_size, ByteArray.size_append, ByteArray.size_append, str_size, str_size] at h1
        simp only [List.length_cons, List.length_nil] at h1
        omega
      obtain ⟨cc, w4, hrun, hcap, hb4, hin4, hs4⟩ := conv_str T hTb w2
      rw [← hT, show strOfNums [62] = ⟨#[62]⟩ from rfl, tl_str] at hrun
      have hbw4 : Below w.heap.size w w4 := HB2.out.trans (hb4.mono hw1)
      have hE4 : w4.cell? ⟨2, 0, none⟩ = some E := by rw [hbw4.cell (p := ⟨2, 0, none⟩) hg]; exact HE.out
      have hB : Begun (some ⟨w2.heap.size, 0, none⟩) T cc E 62 (zs ++ tl) w4 := ⟨hE4, HEE.out, hin4, HT.out.symm, by decide, hch2, t_last _ _, by omega, hcap⟩
      have hv := fold_bad (some ⟨w2.heap.size, 0, none⟩) T cc E 62 (zs ++ tl) w4 hB 0 (by omega) (by omega) (block_bad hbad true)
      simp only [full, nine] at hv
      have hsz1 : (ByteArray.mk #[62]).size + s.size ≤ 9223372036854775807 := by
        show 1 + s.size ≤ _
        omega
      have hsz2 : (ByteArray.mk #[62]).size + s.size + (ByteArray.mk #[10, 32, 32, 32, 32, 32, 32, 32, 32, 32, 32, 97, 10, 10]).size ≤ 9223372036854775807 := by
        show 1 + s.size + 14 ≤ _
        omega
      have HV := Lib.hid hv
      have HBW4 := Lib.hid hbw4
      have HSG := fun W => Lib.hid (sign_fold W)
      clear hb4 hin4 hE4 hv hbw4 hB hch2 hTb hT
      go_wp2_with fail
      refine (HSG _).out.mono ?_
      rintro e w3 ⟨rfl, rfl⟩
      go_wp2_with fail
      refine HV.out.mono ?_
      rintro e w5 ⟨⟨a0, a1, a2, b0, b1, b2, z2, z3, rfl⟩, hb5⟩
      have HB5 := Lib.hid (HBW4.out.trans (hb5.mono HBW4.out.size))
      clear hb5 hrun
      go_wp2_with fail
      go_ret
      have hlw := HB5.out.size
      exact ⟨rfl, (HB5.out.alloc hlw _).alloc (by rw [World.size_alloc]; omega) _⟩
  · cases fold
    · have hw1 := HB2.out.size
      have hT : strOfNums [124] ++ s ++ strOfNums tl = strOfNums (us (124 :: (zs ++ tl))) := by rw [HZS.out, t_str 124 (by decide)]
      obtain ⟨T, HT⟩ : ∃ T, Hid (us (124 :: (zs ++ tl)) = T) := ⟨_, Lib.hid rfl⟩
      rw [HT.out] at hT
      have hch2 := t_ch (q := 124) (by unfold Ch; omega) HCH.out
      have hTb : ∀ x, x ∈ T → 0 ≤ x ∧ x < 256 := by
        rw [← HT.out]
        exact Dq.us_byte hch2
      have hTl : T.length ≤ 1100 := by
        have h1 := congrArg ByteArray.size hT
        have h2 : tl.length = 14 := rfl
        rw [str_size, ByteArray.size_append, ByteArray.size_append, str_size, str_size] at h1
        simp only [List.length_cons, List.length_nil] at h1
        omega
      obtain ⟨cc, w4, hrun, hcap, hb4, hin4, hs4⟩ := conv_str T hTb w2
      rw [← hT, show strOfNums [124] = ⟨#[124]⟩ from rfl, tl_str] at hrun
      have hbw4 : Below w.heap.size w w4 := HB2.out.trans (hb4.mono hw1)
      have hE4 : w4.cell? ⟨2, 0, none⟩ = some E := by rw [hbw4.cell (p := ⟨2, 0, none⟩) hg]; exact HE.out
      have hB : Begun (some ⟨w2.heap.size, 0, none⟩) T cc E 124 (zs ++ tl) w4 := ⟨hE4, HEE.out, hin4, HT.out.symm, by decide, hch2, t_last _ _, by omega, hcap⟩
      have hv := lit_ok (some ⟨w2.heap.size, 0, none⟩) T cc E 124 (zs ++ tl) w4 hB 0 (by omega) (by omega) (vOf ch inc) (block_says hinc hsay false)
      simp only [full, nine] at hv
      have hsz1 : (ByteArray.mk #[124]).size + s.size ≤ 9223372036854775807 := by
        show 1 + s.size ≤ _
        omega
      have hsz2 : (ByteArray.mk #[124]).size + s.size + (ByteArray.mk #[10, 32, 32, 32, 32, 32, 32, 32, 32, 32, 32, 97, 10, 10]).size ≤ 9223372036854775807 := by
        show 1 + s.size + 14 ≤ _
        omega
      obtain ⟨sV, HSV⟩ : ∃ sV, Hid (strOfNums (us (vOf ch inc)) = sV) := ⟨_, Lib.hid rfl⟩
      rw [HSV.out] at hv
      have HV := Lib.hid hv
      have HBW4 := Lib.hid hbw4
      have HSG := fun W => Lib.hid (sign_lit W)
      clear hb4 hin4 hE4 hv hbw4 hB hch2 hTb hT
      go_wp2_with fail
      refine (HSG _).out.mono ?_
      rintro e w3 ⟨rfl, rfl⟩
      go_wp2_with fail
      refine HV.out.mono ?_
      rintro e w5 ⟨⟨s0, s1, s2, e0, e1, e2, rfl⟩, hb5⟩
      have HB5 := Lib.hid (HBW4.out.trans (hb5.mono HBW4.out.size))
      have HT5 := Lib.hid (tabs_below HTB.out HB5.out)
      clear hb5 hrun
      rw [show strOfNums ([] : List Int) = ⟨#[]⟩ from rfl, show sty 16 = 4 from rfl]
      go_wp2_with fail
      obtain ⟨X, HX⟩ : ∃ X : World, Hid ((w5.alloc (.cells #[.int .i64 21, .int .i64 s0, .int .i64 s1, .int .i64 s2, .int .i64 e0, .int .i64 e1, .int .i64 e2, .string sV, .string ⟨#[]⟩, .string ⟨#[]⟩, .int .i64 4, .int .i64 0, .int .i64 0, .int .i64 0] 37)).alloc (.cells #[.int .i64 0, .int .i64 0, .int .i64 0, .int .i64 0, .int .i64 0, .int .i64 0, .int .i64 0, .int .i64 0, .int .i64 0] 31) = X) := ⟨_, rfl⟩
      have hXs : X.heap.size = w5.heap.size + 1 + 1 := by rw [← HX.out]; simp
      have hXb : Below w5.heap.size w5 X := by rw [← HX.out]; exact ((Below.refl _ _).alloc (Nat.le_refl _) _).alloc (by simp) _
      have hXt : Bk X w5.heap.size 37 [.int .i64 21, .int .i64 s0, .int .i64 s1, .int .i64 s2, .int .i64 e0, .int .i64 e1, .int .i64 e2, .string sV, .string ⟨#[]⟩, .string ⟨#[]⟩, .int .i64 4, .int .i64 0, .int .i64 0, .int .i64 0] := by rw [← HX.out]; exact (Bk.new _ _ _).alloc _
      have hXf : Bk X (w5.heap.size + 1) 31 [.int .i64 0, .int .i64 0, .int .i64 0, .int .i64 0, .int .i64 0, .int .i64 0, .int .i64 0, .int .i64 0, .int .i64 0] := by
        have := Bk.new (w5.alloc (.cells [.int .i64 21, .int .i64 s0, .int .i64 s1, .int .i64 s2, .int .i64 e0, .int .i64 e1, .int .i64 e2, .string sV, .string ⟨#[]⟩, .string ⟨#[]⟩, .int .i64 4, .int .i64 0, .int .i64 0, .int .i64 0].toArray 37)) [.int .i64 0, .int .i64 0, .int .i64 0, .int .i64 0, .int .i64 0, .int .i64 0, .int .i64 0, .int .i64 0, .int .i64 0] 31
        simp only [World.size_alloc] at this
        rw [← HX.out]
        exact this
      rw [show ((w5.alloc (.cells #[.int .i64 21, .int .i64 s0, .int .i64 s1, .int .i64 s2, .int .i64 e0, .int .i64 e1, .int .i64 e2, .string sV, .string ⟨#[]⟩, .string ⟨#[]⟩, .int .i64 4, .int .i64 0, .int .i64 0, .int .i64 0] 37)).alloc (.cells #[.int .i64 0, .int .i64 0, .int .i64 0, .int .i64 0, .int .i64 0, .int .i64 0, .int .i64 0, .int .i64 0, .int .i64 0] 31)) = X from HX.out]
      have hbS : Below X.heap.size X (X.alloc (.cells #[.string sTen, .string ⟨#[]⟩] 9)) := (Below.refl _ _).alloc (Nat.le_refl _) _
      have hc0 : (X.alloc (.cells #[.string sTen, .string ⟨#[]⟩] 9)).cell? ⟨w5.heap.size + 1 + 1, 0, none⟩ = some (.string sTen) := by rw [← hXs]; simp
      have hc1 : (X.alloc (.cells #[.string sTen, .string ⟨#[]⟩] 9)).cell? ⟨w5.heap.size + 1 + 1, 1, none⟩ = some (.string ⟨#[]⟩) := by rw [← hXs]; simp
      have hbw := block_want ch hc3 inc hinc false (w5.heap.size + 1 + 1) _ (tabs_below (tabs_below HT5.out hXb) hbS) hc0 hc1 (by simp [hXs])
      rw [HSV.out] at hbw
      refine hbw.mono ?_
      rintro r w7 ⟨rfl, hb7⟩
      have hk7 : Kp [] X w7 := (Kp.of_below hbS).trans (Kp.of_below hb7)
      have ht7 := hXt.kp hk7 (by simp)
      have hf7 := hXf.kp hk7 (by simp)
      have HB7 := Lib.hid (HB5.out.trans ((hXb.trans (hbS.mono (by omega))).trans (hb7.mono (by simp [hXs]; omega)) |>.mono (by have := HB5.out.size; omega)))
      obtain ⟨x0, y0⟩ := at_ ht7 0 rfl
      obtain ⟨x1, y1⟩ := at_ ht7 1 rfl
      obtain ⟨x2, y2⟩ := at_ ht7 2 rfl
      obtain ⟨x3, y3⟩ := at_ ht7 3 rfl
      obtain ⟨x4, y4⟩ := at_ ht7 4 rfl
      obtain ⟨x5, y5⟩ := at_ ht7 5 rfl
      obtain ⟨x6, y6⟩ := at_ ht7 6 rfl
      obtain ⟨x7, y7⟩ := at_ ht7 7 rfl
      obtain ⟨x8, y8⟩ := at_ ht7 8 rfl
      obtain ⟨x9, y9⟩ := at_ ht7 9 rfl
      obtain ⟨x10, y10⟩ := at_ ht7 10 rfl
      obtain ⟨x11, y11⟩ := at_ ht7 11 rfl
      obtain ⟨x12, y12⟩ := at_ ht7 12 rfl
      obtain ⟨x13, y13⟩ := at_ ht7 13 rfl
      obtain ⟨z0, u0⟩ := at_ hf7 0 rfl
      obtain ⟨z1, u1⟩ := at_ hf7 1 rfl
      obtain ⟨z2, u2⟩ := at_ hf7 2 rfl
      obtain ⟨z3, u3⟩ := at_ hf7 3 rfl
      obtain ⟨z4, u4⟩ := at_ hf7 4 rfl
      obtain ⟨z5, u5⟩ := at_ hf7 5 rfl
      obtain ⟨z6, u6⟩ := at_ hf7 6 rfl
      obtain ⟨z7, u7⟩ := at_ hf7 7 rfl
      obtain ⟨z8, u8⟩ := at_ hf7 8 rfl
      have hto := fun W => told_ok s0 s1 s2 e0 e1 e2 sV 4 W
      have HTO := Lib.hid hto
      clear hto hXs hXb hXt hXf hbS hc0 hc1 hbw hb7 hk7 ht7 hf7 HX HB5 HT5
      go_wp2_with fail
      refine (HTO.out _).mono ?_
      rintro e w8 ⟨rfl, hb8⟩
      have HB8 := Lib.hid hb8
      clear hb8
      go_wp2_with fail
      go_ret
      exact ⟨rfl, HB7.out.trans (HB8.out.mono HB7.out.size)⟩
    · have hw1 := HB2.out.size
      have hT : strOfNums [62] ++ s ++ strOfNums tl = strOfNums (us (62 :: (zs ++ tl))) := by rw [HZS.out, t_str 62 (by decide)]
      obtain ⟨T, HT⟩ : ∃ T, Hid (us (62 :: (zs ++ tl)) = T) := ⟨_, Lib.hid rfl⟩
      rw [HT.out] at hT
      have hch2 := t_ch (q := 62) (by unfold Ch; omega) HCH.out
      have hTb : ∀ x, x ∈ T → 0 ≤ x ∧ x < 256 := by
        rw [← HT.out]
        exact Dq.us_byte hch2
      have hTl : T.length ≤ 1100 := by
        have h1 := congrArg ByteArray.size hT
        have h2 : tl.length = 14 := rfl
        rw [str_size, ByteArray.size_append, ByteArray.size_append, str_size, str_size] at h1
        simp only [List.length_cons, List.length_nil] at h1
        omega
      obtain ⟨cc, w4, hrun, hcap, hb4, hin4, hs4⟩ := conv_str T hTb w2
      rw [← hT, show strOfNums [62] = ⟨#[62]⟩ from rfl, tl_str] at hrun
      have hbw4 : Below w.heap.size w w4 := HB2.out.trans (hb4.mono hw1)
      have hE4 : w4.cell? ⟨2, 0, none⟩ = some E := by rw [hbw4.cell (p := ⟨2, 0, none⟩) hg]; exact HE.out
      have hB : Begun (some ⟨w2.heap.size, 0, none⟩) T cc E 62 (zs ++ tl) w4 := ⟨hE4, HEE.out, hin4, HT.out.symm, by decide, hch2, t_last _ _, by omega, hcap⟩
      have hv := fold_ok (some ⟨w2.heap.size, 0, none⟩) T cc E 62 (zs ++ tl) w4 hB 0 (by omega) (by omega) (vOf ch inc) (block_says hinc hsay true)
      simp only [full, nine] at hv
      have hsz1 : (ByteArray.mk #[62]).size + s.size ≤ 9223372036854775807 := by
        show 1 + s.size ≤ _
        omega
      have hsz2 : (ByteArray.mk #[62]).size + s.size + (ByteArray.mk #[10, 32, 32, 32, 32, 32, 32, 32, 32, 32, 32, 97, 10, 10]).size ≤ 9223372036854775807 := by
        show 1 + s.size + 14 ≤ _
        omega
      obtain ⟨sV, HSV⟩ : ∃ sV, Hid (strOfNums (us (vOf ch inc)) = sV) := ⟨_, Lib.hid rfl⟩
      rw [HSV.out] at hv
      have HV := Lib.hid hv
      have HBW4 := Lib.hid hbw4
      have HSG := fun W => Lib.hid (sign_fold W)
      clear hb4 hin4 hE4 hv hbw4 hB hch2 hTb hT
      go_wp2_with fail
      refine (HSG _).out.mono ?_
      rintro e w3 ⟨rfl, rfl⟩
      go_wp2_with fail
      refine HV.out.mono ?_
      rintro e w5 ⟨⟨s0, s1, s2, e0, e1, e2, rfl⟩, hb5⟩
      have HB5 := Lib.hid (HBW4.out.trans (hb5.mono HBW4.out.size))
      have HT5 := Lib.hid (tabs_below HTB.out HB5.out)
      clear hb5 hrun
      rw [show strOfNums ([] : List Int) = ⟨#[]⟩ from rfl, show sty 32 = 5 from rfl]
      go_wp2_with fail
      obtain ⟨X, HX⟩ : ∃ X : World, Hid ((w5.alloc (.cells #[.int .i64 21, .int .i64 s0, .int .i64 s1, .int .i64 s2, .int .i64 e0, .int .i64 e1, .int .i64 e2, .string sV, .string ⟨#[]⟩, .string ⟨#[]⟩, .int .i64 5, .int .i64 0, .int .i64 0, .int .i64 0] 37)).alloc (.cells #[.int .i64 0, .int .i64 0, .int .i64 0, .int .i64 0, .int .i64 0, .int .i64 0, .int .i64 0, .int .i64 0, .int .i64 0] 31) = X) := ⟨_, rfl⟩
      have hXs : X.heap.size = w5.heap.size + 1 + 1 := by rw [← HX.out]; simp
      have hXb : Below w5.heap.size w5 X := by rw [← HX.out]; exact ((Below.refl _ _).alloc (Nat.le_refl _) _).alloc (by simp) _
      have hXt : Bk X w5.heap.size 37 [.int .i64 21, .int .i64 s0, .int .i64 s1, .int .i64 s2, .int .i64 e0, .int .i64 e1, .int .i64 e2, .string sV, .string ⟨#[]⟩, .string ⟨#[]⟩, .int .i64 5, .int .i64 0, .int .i64 0, .int .i64 0] := by rw [← HX.out]; exact (Bk.new _ _ _).alloc _
      have hXf : Bk X (w5.heap.size + 1) 31 [.int .i64 0, .int .i64 0, .int .i64 0, .int .i64 0, .int .i64 0, .int .i64 0, .int .i64 0, .int .i64 0, .int .i64 0] := by
        have := Bk.new (w5.alloc (.cells [.int .i64 21, .int .i64 s0, .int .i64 s1, .int .i64 s2, .int .i64 e0, .int .i64 e1, .int .i64 e2, .string sV, .string ⟨#[]⟩, .string ⟨#[]⟩, .int .i64 5, .int .i64 0, .int .i64 0, .int .i64 0].toArray 37)) [.int .i64 0, .int .i64 0, .int .i64 0, .int .i64 0, .int .i64 0, .int .i64 0, .int .i64 0, .int .i64 0, .int .i64 0] 31
        simp only [World.size_alloc] at this
        rw [← HX.out]
        exact this
      rw [show ((w5.alloc (.cells #[.int .i64 21, .int .i64 s0, .int .i64 s1, .int .i64 s2, .int .i64 e0, .int .i64 e1, .int .i64 e2, .string sV, .string ⟨#[]⟩, .string ⟨#[]⟩, .int .i64 5, .int .i64 0, .int .i64 0, .int .i64 0] 37)).alloc (.cells #[.int .i64 0, .int .i64 0, .int .i64 0, .int .i64 0, .int .i64 0, .int .i64 0, .int .i64 0, .int .i64 0, .int .i64 0] 31)) = X from HX.out]
      have hbS : Below X.heap.size X (X.alloc (.cells #[.string sTen, .string ⟨#[]⟩] 9)) := (Below.refl _ _).alloc (Nat.le_refl _) _
      have hc0 : (X.alloc (.cells #[.string sTen, .string ⟨#[]⟩] 9)).cell? ⟨w5.heap.size + 1 + 1, 0, none⟩ = some (.string sTen) := by rw [← hXs]; simp
      have hc1 : (X.alloc (.cells #[.string sTen, .string ⟨#[]⟩] 9)).cell? ⟨w5.heap.size + 1 + 1, 1, none⟩ = some (.string ⟨#[]⟩) := by rw [← hXs]; simp
      have hbw := block_want ch hc3 inc hinc true (w5.heap.size + 1 + 1) _ (tabs_below (tabs_below HT5.out hXb) hbS) hc0 hc1 (by simp [hXs])
      rw [HSV.out] at hbw
      refine hbw.mono ?_
      rintro r w7 ⟨rfl, hb7⟩
      have hk7 : Kp [] X w7 := (Kp.of_below hbS).trans (Kp.of_below hb7)
      have ht7 := hXt.kp hk7 (by simp)
      have hf7 := hXf.kp hk7 (by simp)
      have HB7 := Lib.hid (HB5.out.trans ((hXb.trans (hbS.mono (by omega))).trans (hb7.mono (by simp [hXs]; omega)) |>.mono (by have := HB5.out.size; omega)))
      obtain ⟨x0, y0⟩ := at_ ht7 0 rfl
      obtain ⟨x1, y1⟩ := at_ ht7 1 rfl
      obtain ⟨x2, y2⟩ := at_ ht7 2 rfl
      obtain ⟨x3, y3⟩ := at_ ht7 3 rfl
      obtain ⟨x4, y4⟩ := at_ ht7 4 rfl
      obtain ⟨x5, y5⟩ := at_ ht7 5 rfl
      obtain ⟨x6, y6⟩ := at_ ht7 6 rfl
      obtain ⟨x7, y7⟩ := at_ ht7 7 rfl
      obtain ⟨x8, y8⟩ := at_ ht7 8 rfl
      obtain ⟨x9, y9⟩ := at_ ht7 9 rfl
      obtain ⟨x10, y10⟩ := at_ ht7 10 rfl
      obtain ⟨x11, y11⟩ := at_ ht7 11 rfl
      obtain ⟨x12, y12⟩ := at_ ht7 12 rfl
      obtain ⟨x13, y13⟩ := at_ ht7 13 rfl
      obtain ⟨z0, u0⟩ := at_ hf7 0 rfl
      obtain ⟨z1, u1⟩ := at_ hf7 1 rfl
      obtain ⟨z2, u2⟩ := at_ hf7 2 rfl
      obtain ⟨z3, u3⟩ := at_ hf7 3 rfl
      obtain ⟨z4, u4⟩ := at_ hf7 4 rfl
      obtain ⟨z5, u5⟩ := at_ hf7 5 rfl
      obtain ⟨z6, u6⟩ := at_ hf7 6 rfl
      obtain ⟨z7, u7⟩ := at_ hf7 7 rfl
      obtain ⟨z8, u8⟩ := at_ hf7 8 rfl
      have hto := fun W => told_ok s0 s1 s2 e0 e1 e2 sV 5 W
      have HTO := Lib.hid hto
      clear hto hXs hXb hXt hXf hbS hc0 hc1 hbw hb7 hk7 ht7 hf7 HX HB5 HT5
      go_wp2_with fail
      refine (HTO.out _).mono ?_
      rintro e w8 ⟨rfl, hb8⟩
      have HB8 := Lib.hid hb8
      clear hb8
      go_wp2_with fail
      go_ret
      exact ⟨rfl, HB7.out.trans (HB8.out.mono HB7.out.size)⟩
end Go.Proofs.YtocbbekciphjgaaDoor.Bh
/- QmC -/
/- FnBlockHeads, for heads of any length. -/
namespace Go.Proofs.YtocbbekciphjgaaDoor.Bh
open Go.RowKit Go.Proofs.YtocbbekciphjgaaDoor.Pa Go.Proofs.YtocbbekciphjgaaDoor.Ln
set_option linter.unusedVariables false
set_option maxHeartbeats 1000000 in
theorem heads_great (s : ByteArray) (fold : Bool) (hh : 2147483647 < s.size) (hm : s.size ≤ 140737488351232) (w : World) :
    Calls Tryd.prog 9 #[.string s, .bool fold] w fun e w' => e = .returned (.bool true) ∧ Below w.heap.size w w' := by
  have h0 : decide (2147483647 < (s.size : Int)) = true := by simp; omega
  have h0' : decide (2147483647 < s.size) = true := by simp; omega
  go_enter Tryd.func9, Tryd.ntmps9
  go_wp2_with fail
  go_ret
  exact ⟨rfl, Below.refl _ _⟩
theorem heads_walk (s : ByteArray) (fold : Bool) (w : World) (E : Value) (hE : w.cell? ⟨2, 0, none⟩ = some E) (hEof : IsEof E) (hT : Tabs w) (hm : s.size ≤ 140737488351232) :
    Calls Tryd.prog 9 #[.string s, .bool fold] w fun e w' => e = .returned (.bool true) ∧ Below w.heap.size w w' := by
  by_cases hs : s.size ≤ 2147483647
  · exact heads_law s fold hs w E hE hEof hT
  · exact heads_great s fold (by omega) hm w
end Go.Proofs.YtocbbekciphjgaaDoor.Bh
/- Zz -/
/- What the listed variable io.EOF holds when the call begins: the one cell, out of the row's premise; and a world that meets it. -/
namespace Go.Proofs.YtocbbekciphjgaaDoor.Eof
open Go.ChangeShapes Go.WideShapes Go.RowKit
set_option linter.unusedVariables false
theorem named : Tryd.prog.globalNamed "io.EOF" = some 2 := by kernel_rfl
theorem typed : (Tryd.prog.globals[2]?).map (·.type) = some 172 := by kernel_rfl
theorem cells209 : Tryd.prog.cellsOf 209 = 1 := by kernel_rfl
theorem cells9 : Tryd.prog.cellsOf 9 = 1 := by kernel_rfl
theorem star : "*" ++ "errors.errorString" = "*errors.errorString" := by decide
theorem row181 (u : TypeId) (h : Tryd.prog.typeName? 3 u = some "*errors.errorString") : u = 181 :=
  typeName_ptr_named (nm := "errors.errorString") (by rw [star]; kernel_rfl) (by kernel_rfl) (by decide) u (by rw [star]; exact h)
set_option maxRecDepth 100000 in
theorem eof_of_laid {W : World} (h : laidMetH Tryd.prog [("io.EOF", Rows.laid_io_EOF)] W) : ∃ a : Addr, W.cell? ⟨2, 0, none⟩ = some (.iface 181 (.pointer (some a))) := by
  have h' : laidMet Tryd.prog [("io.EOF", Rows.laid_io_EOF)] W := h
  obtain ⟨ps, ⟨g0, t0, cs0, f0, p0, q0, hg0, ht0, hv0, hd0, hq0, e0⟩, hnd, hrows⟩ := h'
  obtain rfl := Option.some.inj (named.symm.trans hg0)
  obtain rfl := Option.some.inj (typed.symm.trans ht0)
  have hq0' : q0 = [] := hq0
  subst hq0'
  subst e0
  obtain ⟨l0⟩ := cs0
  have ok0 : ∀ u v, l0 = [.iface u v] → Value.okWide Tryd.prog W .any 0 u v := fun u v e => by
    subst e
    exact (hrows 2 0 (by simp [MemPlace.row])).2 u v (by simpa using World.var?_cell hg0 hv0 0)
  obtain ⟨a0, s0, rfl, hc0, hs0, hz0, rfl⟩ := errorString_of_trod Tryd.underlying172 row181 Tryd.underlying181 Tryd.underlying209 rfl rfl Tryd.underlying9 cells209 cells9 hd0 ok0
  exact ⟨a0, by simpa using World.var?_cell hg0 hv0 0⟩
noncomputable def low : Nat := (World.holding Tryd.prog default ⟨#[], #[], []⟩).heap.size
/-- A world that meets it: the settled one, the variable's cell laid. -/
noncomputable def laidWorld (os : Os) : World :=
  let w0 := World.holding Tryd.prog os ⟨#[.cells #[.string ⟨#[69, 79, 70]⟩] 209], #[], []⟩
  { w0 with heap := w0.heap.modify 2 fun
      | .cells _ t frozen => .cells #[.iface 181 (.pointer (some ⟨low, 0, none⟩))] t frozen
      | o => o }
theorem laidWorld_met (os : Os) (args : Array Value) : laidMetH Tryd.prog [("io.EOF", Rows.laid_io_EOF)] ((laidWorld os).forCall (fun _ _ => 0) ⟨#[], args, []⟩).memory :=
  laidMetH_of_parts (laidMet_of_run (ps := [.cell 2 0, .cell low 0]) 8 (by kernel_rfl) (by kernel_rfl) (by kernel_rfl)) (by kernel_rfl)
end Go.Proofs.YtocbbekciphjgaaDoor.Eof
