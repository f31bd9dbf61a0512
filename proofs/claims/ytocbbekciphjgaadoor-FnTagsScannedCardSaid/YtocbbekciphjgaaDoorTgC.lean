/- The loop of yaml_parser_scan_tag_uri, its body taken out of it: the walks. Printed by genTgB.py. -/
import Derived.Test.YtocbbekciphjgaaDoorTgB
import Derived.Test.YtocbbekciphjgaaDoorLey
import Derived.Test.YtocbbekciphjgaaDoorPaL
namespace Go.Proofs.YtocbbekciphjgaaDoor.Sc
open Go.RowKit Go.Proofs.YtocbbekciphjgaaDoor.Rdp Go.Proofs.YtocbbekciphjgaaDoor.Pa
set_option linter.unusedVariables false
set_option linter.unusedSimpArgs false
noncomputable def uBody : Code := (Tryd.f111.body.bind firstLoop).getD .skip
set_option maxRecDepth 1000000 in
theorem lit340 (a : Act) (h : a.tmps.size = 340) (hd : a.defers = []) : a = ⟨#[gt a 0, gt a 1, gt a 2, gt a 3, gt a 4, gt a 5, gt a 6, gt a 7, gt a 8, gt a 9, gt a 10, gt a 11, gt a 12, gt a 13, gt a 14, gt a 15, gt a 16, gt a 17, gt a 18, gt a 19, gt a 20, gt a 21, gt a 22, gt a 23, gt a 24, gt a 25, gt a 26, gt a 27, gt a 28, gt a 29, gt a 30, gt a 31, gt a 32, gt a 33, gt a 34, gt a 35, gt a 36, gt a 37, gt a 38, gt a 39, gt a 40, gt a 41, gt a 42, gt a 43, gt a 44, gt a 45, gt a 46, gt a 47, gt a 48, gt a 49, gt a 50, gt a 51, gt a 52, gt a 53, gt a 54, gt a 55, gt a 56, gt a 57, gt a 58, gt a 59, gt a 60, gt a 61, gt a 62, gt a 63, gt a 64, gt a 65, gt a 66, gt a 67, gt a 68, gt a 69, gt a 70, gt a 71, gt a 72, gt a 73, gt a 74, gt a 75, gt a 76, gt a 77, gt a 78, gt a 79, gt a 80, gt a 81, gt a 82, gt a 83, gt a 84, gt a 85, gt a 86, gt a 87, gt a 88, gt a 89, gt a 90, gt a 91, gt a 92, gt a 93, gt a 94, gt a 95, gt a 96, gt a 97, gt a 98, gt a 99, gt a 100, gt a 101, gt a 102, gt a 103, gt a 104, gt a 105, gt a 106, gt a 107, gt a 108, gt a 109, gt a 110, gt a 111, gt a 112, gt a 113, gt a 114, gt a 115, gt a 116, gt a 117, gt a 118, gt a 119, gt a 120, gt a 121, gt a 122, gt a 123, gt a 124, gt a 125, gt a 126, gt a 127, gt a 128, gt a 129, gt a 130, gt a 131, gt a 132, gt a 133, gt a 134, gt a 135, gt a 136, gt a 137, gt a 138, gt a 139, gt a 140, gt a 141, gt a 142, gt a 143, gt a 144, gt a 145, gt a 146, gt a 147, gt a 148, gt a 149, gt a 150, gt a 151, gt a 152, gt a 153, gt a 154, gt a 155, gt a 156, gt a 157, gt a 158, gt a 159, gt a 160, gt a 161, gt a 162, gt a 163, gt a 164, gt a 165, gt a 166, gt a 167, gt a 168, gt a 169, gt a 170, gt a 171, gt a 172, gt a 173, gt a 174, gt a 175, gt a 176, gt a 177, gt a 178, gt a 179, gt a 180, gt a 181, gt a 182, gt a 183, gt a 184, gt a 185, gt a 186, gt a 187, gt a 188, gt a 189, gt a 190, gt a 191, gt a 192, gt a 193, gt a 194, gt a 195, gt a 196, gt a 197, gt a 198, gt a 199, gt a 200, gt a 201, gt a 202, gt a 203, gt a 204, gt a 205, gt a 206, gt a 207, gt a 208, gt a 209, gt a 210, gt a 211, gt a 212, gt a 213, gt a 214, gt a 215, gt a 216, gt a 217, gt a 218, gt a 219, gt a 220, gt a 221, gt a 222, gt a 223, gt a 224, gt a 225, gt a 226, gt a 227, gt a 228, gt a 229, gt a 230, gt a 231, gt a 232, gt a 233, gt a 234, gt a 235, gt a 236, gt a 237, gt a 238, gt a 239, gt a 240, gt a 241, gt a 242, gt a 243, gt a 244, gt a 245, gt a 246, gt a 247, gt a 248, gt a 249, gt a 250, gt a 251, gt a 252, gt a 253, gt a 254, gt a 255, gt a 256, gt a 257, gt a 258, gt a 259, gt a 260, gt a 261, gt a 262, gt a 263, gt a 264, gt a 265, gt a 266, gt a 267, gt a 268, gt a 269, gt a 270, gt a 271, gt a 272, gt a 273, gt a 274, gt a 275, gt a 276, gt a 277, gt a 278, gt a 279, gt a 280, gt a 281, gt a 282, gt a 283, gt a 284, gt a 285, gt a 286, gt a 287, gt a 288, gt a 289, gt a 290, gt a 291, gt a 292, gt a 293, gt a 294, gt a 295, gt a 296, gt a 297, gt a 298, gt a 299, gt a 300, gt a 301, gt a 302, gt a 303, gt a 304, gt a 305, gt a 306, gt a 307, gt a 308, gt a 309, gt a 310, gt a 311, gt a 312, gt a 313, gt a 314, gt a 315, gt a 316, gt a 317, gt a 318, gt a 319, gt a 320, gt a 321, gt a 322, gt a 323, gt a 324, gt a 325, gt a 326, gt a 327, gt a 328, gt a 329, gt a 330, gt a 331, gt a 332, gt a 333, gt a 334, gt a 335, gt a 336, gt a 337, gt a 338, gt a 339], []⟩ := act_lit 340 a h hd
/-- What a round leaves of a frame. -/
structure FrU (a a' : Act) : Prop where
  size : a'.tmps.size = 340
  defers : a'.defers = []
  s0 : gt a' 0 = gt a 0
  s4 : gt a' 4 = gt a 4
  s11 : gt a' 11 = gt a 11
/-- What stands in a frame of it. -/
structure InU (p ub sb : Nat) (a : Act) : Prop where
  size : a.tmps.size = 340
  defers : a.defers = []
  s0 : gt a 0 = .pointer (some ⟨p, 0, none⟩)
  s4 : gt a 4 = .pointer (some ⟨ub, 0, none⟩)
  s11 : gt a 11 = .pointer (some ⟨sb, 0, none⟩)
theorem InU.next {p ub sb : Nat} {a a' : Act} (h : InU p ub sb a) (f : FrU a a') : InU p ub sb a' := ⟨f.size, f.defers, f.s0.trans h.s0, f.s4.trans h.s4, f.s11.trans h.s11⟩
set_option maxHeartbeats 32000000 in
set_option maxRecDepth 100000 in
theorem uri_al {k : Kn} {p c mi mc n sb ub i : Nat} {L : List Value} {wa wr : World} {v0 : Value} {l0 : List Int} {a : Act} {K : Act → World → Prop} {Q : Exit → Act → World → Prop} (hr : RoundOk k p) (hfg : ∀ g, wa.heap.size ≤ g → Far k p g) (hsbf : Far k p sb) (hsbs : sb < wa.heap.size) (hg : 2 < wa.heap.size) (hmi : mi ≤ 1000000) (hmc : mc ≤ 1000000) (hn : n ≤ 12)
    (hiu : InU p ub sb a) (hU : Uri k p c mi mc n wa.heap.size sb L wa v0 l0 i wr) (hlt : i < n) (hnil : v0 = .slice none 0 0) (hal : Al.al (S k.T (c + i)) = true)
    (hK : ∀ a' w', FrU a a' → gt a' 12 = .bool true → Uri k p c mi mc n wa.heap.size sb L wa v0 l0 (i + 1) w' → K a' w') :
    uBody.wp Tryd.prog (Exit.then K Q) a wr := by
  obtain ⟨hin, ⟨⟨u1, bp1, bl1, L1, hr1, hu1, h241, h261, ⟨z1, h191⟩, ho1⟩, hk1⟩, hvv⟩ := hU
  have hrd1 := hr1.ready 1 hu1
  have hsm1 := hr1.small
  have hge1 := adv_ge k.T (c + i) 1
  have hby := hr1.byte 0 (by omega)
  rw [Nat.add_zero, Nat.add_zero] at hby
  obtain ⟨y, HY⟩ : ∃ y, Hid (S k.T (c + i) = y) := ⟨_, rfl⟩
  rw [HY.out] at hby
  rw [HY.out] at hal
  have hac := al_cw hal
  have hyb : 0 ≤ y ∧ y ≤ 255 := by omega
  have hlow := hac.1
  have hhigh := hac.2.1
  have hdc : ∀ N, Calls Tryd.prog 108 #[.slice (some ⟨k.q, 0, none⟩) bl1 1536, .int .i64 bp1] (wr.drewN N) fun e w' => e = .returned (.bool (Al.al y)) ∧ w' = wr.drewN N := fun N => (Al.al_any k.q 0 bl1 1536 bp1 y (by omega) (by omega) hyb.1 hyb.2 (wr.drewN N) (by rw [Nat.zero_add]; exact hby)).mono fun _ _ h => ⟨h.1, h.2.symm⟩
  obtain ⟨c16, f16⟩ := at_ hr1.pb 16 hr1.at16
  obtain ⟨c17, f17⟩ := at_ hr1.pb 17 hr1.at17
  have j1 : (bp1 : Int) < (bl1 : Int) := by omega
  have j0 : (0 : Int) ≤ (bp1 : Int) := by omega
  have HR1 := Lib.hid hr1
  have H241 := Lib.hid h241
  have H261 := Lib.hid h261
  have H191 := Lib.hid h191
  have HO1 := Lib.hid ho1
  have HK1 := Lib.hid hk1
  have hsz1 := hk1.size
  have hv541 := rdr_u hr1
  have hg1 : 2 < wr.heap.size := by omega
  have HFG := Lib.hid hfg
  have HR := Lib.hid hr
  have HSBF := Lib.hid hsbf
  have HSS := Lib.hid hsbs
  have HIU := Lib.hid hiu
  obtain ⟨v, hv1, hv2⟩ := hvv
  have hheld : Held k.T wa.heap.size c i v wr := by
    rcases hv2 with ⟨rfl, rfl, _⟩ | ⟨_, hv2⟩
    · exact .inl ⟨rfl, hnil⟩
    · exact hv2
  obtain ⟨ct, ft⟩ := at_ hv1 0 rfl
  have HHELD := Lib.hid hheld
  have HV1 := Lib.hid hv1
  obtain ⟨q, rfl⟩ : ∃ q, u1 = q + 1 := ⟨u1 - 1, by omega⟩
  have HKK := Lib.hid hK
  have hy37 : (y == 37) = false := by
    rw [beq_eq_false_iff_ne]
    intro e
    subst e
    cases hal
  rw [hal] at hdc
  have HDC := Lib.hid hdc
  clear hr1 h241 h261 h191 ho1 hk1 hrd1 hge1 hheld hv1 hv2 hdc hal hac hyb hK hr hfg hsbf hsbs
  rw [lit340 a hiu.size hiu.defers, hiu.s0, hiu.s4, hiu.s11]
  clear hiu
  conv => arg 2; whnf
  try simp only [List.append]
  go_wp2_with fail
  refine wp_region_quiet_lit (by kernel_rfl) (Sp.lexB_chain _ 33 (by kernel_rfl)) ?_
  repeat (go_big_quiet_step ((go_at_call 108; exact Calls.quiet_of_same (HDC.out _))))
  refine wpQuiet_nil ?_
  rintro _ ⟨N, rfl⟩
  go_wp2_with fail
  go_quiet (fail)
  go_wp2_with fail
  refine (read_al k p (c + i) q bp1 bl1 (mi + i) (mc + i) c i wa.heap.size z1 y v L1 _ (HR1.out.drewN _) H241.out H261.out H191.out (by omega) (by omega) (by omega) HY.out hlow hhigh rfl (by omega) (HHELD.out.kp ((Kp.refl [] wr).drewN _) (by simp)) hsz1 HFG.out).mono ?_
  rintro e w4 ⟨v4, L4, rfl, hh4, hr4, ⟨h244, h264, ⟨z4, h194⟩, ho4⟩, qs, hkq, hqs⟩
  have hkq' : Kp (p :: qs) wr w4 := ((Kp.refl _ wr).drewN _).trans hkq
  have hpsb : sb ≠ p := fun e => HSBF.out.1 (by rw [e]; exact k.mp p)
  have hk4 : Kp (sb :: k.bs p) wa w4 := Kp.trans_new HK1.out hkq' (fun b hb => by
    simp only [List.mem_cons] at hb
    rcases hb with rfl | hb
    · exact .inl (List.mem_cons_of_mem _ (k.mp b))
    · exact .inr (hqs b hb))
  have hs4 : Bk w4 sb 22 [v] := HV1.out.kp hkq' (fun hh => by
    simp only [List.mem_cons] at hh
    rcases hh with h | h
    · exact hpsb h
    · have := hqs _ h; have := HSS.out; omega)
  have ho5 : ∀ j, rdOff j → j ≠ 19 → j ≠ 24 → j ≠ 26 → L4[j]? = L[j]? := fun j j1 j2 j3 j4 => by
    rw [ho4 j (by unfold rdOff at j1; omega) (by unfold rdOff at j1; omega) j2 j3 j4]
    exact HO1.out j j1 j2 j3 j4
  have hg4 : 2 < w4.heap.size := by have := hk4.size; omega
  obtain ⟨a4, n4, k4, rfl⟩ := hh4.slice
  clear ct ft
  obtain ⟨ct, ft⟩ := at_ hs4 0 rfl
  have HH4 := Lib.hid hh4
  have HR4 := Lib.hid hr4
  have H244 := Lib.hid h244
  have H264 := Lib.hid h264
  have H194 := Lib.hid h194
  have HO5 := Lib.hid ho5
  have HK4 := Lib.hid hk4
  have HS4 := Lib.hid hs4
  clear hh4 hr4 h244 h264 h194 ho4 ho5 hkq hkq' hqs hk4 hs4 c16 c17 f16 f17 hby
  go_upto_region 12 with fail
  obtain ⟨w5, HW5⟩ : ∃ w5 : World, Hid (w4.setCell ⟨sb, 0, none⟩ (.slice a4 n4 k4) = w5) := ⟨_, rfl⟩
  have hks : Kp [sb] w4 w5 := by rw [← HW5.out]; exact (Kp.refl _ _).setCell sb 0 _ (by simp)
  have hs5 : Bk w5 sb 22 [.slice a4 n4 k4] := by rw [← HW5.out]; exact HS4.out.set 0 _
  have hsz5 : w5.heap.size = w4.heap.size := by rw [← HW5.out]; simp
  rw [HW5.out]
  have hr5 : Rdr k p (c + i + 1) q (bp1 + 1) bl1 L4 w5 := rdr_far HR4.out hks (fun b hb2 => by simp at hb2; subst hb2; exact HSBF.out)
  have hh5 : Held k.T wa.heap.size c (i + 1) (.slice a4 n4 k4) w5 := HH4.out.kp hks (fun b hb2 => by have := HSS.out; simp; omega)
  have hk5 : Kp (sb :: k.bs p) wa w5 := HK4.out.trans (hks.mono (by simp))
  have hg5 : 2 < w5.heap.size := by omega
  clear ct ft
  obtain ⟨c18, f18⟩ := at_ hr5.pb 18 hr5.at18
  have HR5 := Lib.hid hr5
  have HH5 := Lib.hid hh5
  have HK5 := Lib.hid hk5
  have HS5 := Lib.hid hs5
  clear hr5 hh5 hk5 hs5 hks HW5 HR4 HH4 HK4 HS4
  by_cases hv0 : q = 0
  · have hub : decide ((q : Int) < 1) = true := by simp; omega
    clear hv0
    go_wp2_with fail
    refine (ub_any k p (c + (i + 1)) q _ bl1 1 L4 w5 HR.out HR5.out (by omega) (by omega) hg5).mono ?_
    rintro e w6 ⟨rfl, hupd⟩
    have HU := Lib.hid (Uri.upd (i := i + 1) (n := n) (v0 := v0) (l0 := l0) (lo := wa.heap.size) (sb := sb) (w0 := wa) hupd H244.out H264.out H194.out HO5.out HK5.out (by omega) HS5.out (.inr ⟨by omega, HH5.out⟩) (fun g hg => (HFG.out g (by omega)).1) HSBF.out.1)
    clear hupd
    go_wp2_with fail
    exact HKK.out _ _ ⟨rfl, rfl, HIU.out.s0.symm, HIU.out.s4.symm, HIU.out.s11.symm⟩ rfl HU.out
  · have hub : decide ((q : Int) < 1) = false := by simp; omega
    have HV := Lib.hid hv0
    clear hv0
    go_wp2_with fail
    exact HKK.out _ _ ⟨rfl, rfl, HIU.out.s0.symm, HIU.out.s4.symm, HIU.out.s11.symm⟩ rfl ⟨by omega, ⟨⟨q, _, bl1, L4, HR5.out, by have := HV.out; omega, H244.out, H264.out, ⟨z4, H194.out⟩, HO5.out⟩, HK5.out⟩, _, HS5.out, .inr ⟨by omega, HH5.out⟩⟩
set_option maxHeartbeats 32000000 in
set_option maxRecDepth 100000 in
theorem uri_colon {k : Kn} {p c mi mc n sb ub i : Nat} {L : List Value} {wa wr : World} {v0 : Value} {l0 : List Int} {a : Act} {K : Act → World → Prop} {Q : Exit → Act → World → Prop} (hr : RoundOk k p) (hfg : ∀ g, wa.heap.size ≤ g → Far k p g) (hsbf : Far k p sb) (hsbs : sb < wa.heap.size) (hg : 2 < wa.heap.size) (hmi : mi ≤ 1000000) (hmc : mc ≤ 1000000) (hn : n ≤ 12)
    (hiu : InU p ub sb a) (hU : Uri k p c mi mc n wa.heap.size sb L wa v0 l0 i wr) (hlt : i < n) (hnil : v0 = .slice none 0 0) (h58 : S k.T (c + i) = 58)
    (hK : ∀ a' w', FrU a a' → gt a' 12 = .bool true → Uri k p c mi mc n wa.heap.size sb L wa v0 l0 (i + 1) w' → K a' w') :
    uBody.wp Tryd.prog (Exit.then K Q) a wr := by
  obtain ⟨hin, ⟨⟨u1, bp1, bl1, L1, hr1, hu1, h241, h261, ⟨z1, h191⟩, ho1⟩, hk1⟩, hvv⟩ := hU
  have hrd1 := hr1.ready 1 hu1
  have hsm1 := hr1.small
  have hge1 := adv_ge k.T (c + i) 1
  have hby := hr1.byte 0 (by omega)
  rw [Nat.add_zero, Nat.add_zero] at hby
  obtain ⟨y, HY⟩ : ∃ y, Hid (S k.T (c + i) = y) := ⟨_, rfl⟩
  rw [HY.out] at hby
  rw [HY.out] at h58
  have hyb : 0 ≤ y ∧ y ≤ 255 := by omega
  have hlow : 33 ≤ y := by omega
  have hhigh : y < 128 := by omega
  have hdc : ∀ N, Calls Tryd.prog 108 #[.slice (some ⟨k.q, 0, none⟩) bl1 1536, .int .i64 bp1] (wr.drewN N) fun e w' => e = .returned (.bool (Al.al y)) ∧ w' = wr.drewN N := fun N => (Al.al_any k.q 0 bl1 1536 bp1 y (by omega) (by omega) hyb.1 hyb.2 (wr.drewN N) (by rw [Nat.zero_add]; exact hby)).mono fun _ _ h => ⟨h.1, h.2.symm⟩
  obtain ⟨c16, f16⟩ := at_ hr1.pb 16 hr1.at16
  obtain ⟨c17, f17⟩ := at_ hr1.pb 17 hr1.at17
  have j1 : (bp1 : Int) < (bl1 : Int) := by omega
  have j0 : (0 : Int) ≤ (bp1 : Int) := by omega
  have HR1 := Lib.hid hr1
  have H241 := Lib.hid h241
  have H261 := Lib.hid h261
  have H191 := Lib.hid h191
  have HO1 := Lib.hid ho1
  have HK1 := Lib.hid hk1
  have hsz1 := hk1.size
  have hv541 := rdr_u hr1
  have hg1 : 2 < wr.heap.size := by omega
  have HFG := Lib.hid hfg
  have HR := Lib.hid hr
  have HSBF := Lib.hid hsbf
  have HSS := Lib.hid hsbs
  have HIU := Lib.hid hiu
  obtain ⟨v, hv1, hv2⟩ := hvv
  have hheld : Held k.T wa.heap.size c i v wr := by
    rcases hv2 with ⟨rfl, rfl, _⟩ | ⟨_, hv2⟩
    · exact .inl ⟨rfl, hnil⟩
    · exact hv2
  obtain ⟨ct, ft⟩ := at_ hv1 0 rfl
  have HHELD := Lib.hid hheld
  have HV1 := Lib.hid hv1
  obtain ⟨q, rfl⟩ : ∃ q, u1 = q + 1 := ⟨u1 - 1, by omega⟩
  have HKK := Lib.hid hK
  have y59 : (y == 59) = false := by rw [beq_eq_false_iff_ne]; omega
  have y47 : (y == 47) = false := by rw [beq_eq_false_iff_ne]; omega
  have y63 : (y == 63) = false := by rw [beq_eq_false_iff_ne]; omega
  have y58 : (y == 58) = true := by rw [beq_iff_eq]; exact h58
  have hy37 : (y == 37) = false := by rw [beq_eq_false_iff_ne]; omega
  rw [show Al.al y = false by rw [h58]; rfl] at hdc
  have HDC := Lib.hid hdc
  clear hr1 h241 h261 h191 ho1 hk1 hrd1 hge1 hheld hv1 hv2 hdc h58 hyb hK hr hfg hsbf hsbs
  rw [lit340 a hiu.size hiu.defers, hiu.s0, hiu.s4, hiu.s11]
  clear hiu
  conv => arg 2; whnf
  try simp only [List.append]
  go_wp2_with fail
  refine wp_region_quiet_lit (by kernel_rfl) (Sp.lexB_chain _ 33 (by kernel_rfl)) ?_
  repeat (go_big_quiet_step ((go_at_call 108; exact Calls.quiet_of_same (HDC.out _))))
  refine wpQuiet_nil ?_
  rintro _ ⟨N, rfl⟩
  go_wp2_with fail
  go_quiet (fail)
  go_wp2_with fail
  refine (read_al k p (c + i) q bp1 bl1 (mi + i) (mc + i) c i wa.heap.size z1 y v L1 _ (HR1.out.drewN _) H241.out H261.out H191.out (by omega) (by omega) (by omega) HY.out hlow hhigh rfl (by omega) (HHELD.out.kp ((Kp.refl [] wr).drewN _) (by simp)) hsz1 HFG.out).mono ?_
  rintro e w4 ⟨v4, L4, rfl, hh4, hr4, ⟨h244, h264, ⟨z4, h194⟩, ho4⟩, qs, hkq, hqs⟩
  have hkq' : Kp (p :: qs) wr w4 := ((Kp.refl _ wr).drewN _).trans hkq
  have hpsb : sb ≠ p := fun e => HSBF.out.1 (by rw [e]; exact k.mp p)
  have hk4 : Kp (sb :: k.bs p) wa w4 := Kp.trans_new HK1.out hkq' (fun b hb => by
    simp only [List.mem_cons] at hb
    rcases hb with rfl | hb
    · exact .inl (List.mem_cons_of_mem _ (k.mp b))
    · exact .inr (hqs b hb))
  have hs4 : Bk w4 sb 22 [v] := HV1.out.kp hkq' (fun hh => by
    simp only [List.mem_cons] at hh
    rcases hh with h | h
    · exact hpsb h
    · have := hqs _ h; have := HSS.out; omega)
  have ho5 : ∀ j, rdOff j → j ≠ 19 → j ≠ 24 → j ≠ 26 → L4[j]? = L[j]? := fun j j1 j2 j3 j4 => by
    rw [ho4 j (by unfold rdOff at j1; omega) (by unfold rdOff at j1; omega) j2 j3 j4]
    exact HO1.out j j1 j2 j3 j4
  have hg4 : 2 < w4.heap.size := by have := hk4.size; omega
  obtain ⟨a4, n4, k4, rfl⟩ := hh4.slice
  clear ct ft
  obtain ⟨ct, ft⟩ := at_ hs4 0 rfl
  have HH4 := Lib.hid hh4
  have HR4 := Lib.hid hr4
  have H244 := Lib.hid h244
  have H264 := Lib.hid h264
  have H194 := Lib.hid h194
  have HO5 := Lib.hid ho5
  have HK4 := Lib.hid hk4
  have HS4 := Lib.hid hs4
  clear hh4 hr4 h244 h264 h194 ho4 ho5 hkq hkq' hqs hk4 hs4 c16 c17 f16 f17 hby
  go_upto_region 12 with fail
  obtain ⟨w5, HW5⟩ : ∃ w5 : World, Hid (w4.setCell ⟨sb, 0, none⟩ (.slice a4 n4 k4) = w5) := ⟨_, rfl⟩
  have hks : Kp [sb] w4 w5 := by rw [← HW5.out]; exact (Kp.refl _ _).setCell sb 0 _ (by simp)
  have hs5 : Bk w5 sb 22 [.slice a4 n4 k4] := by rw [← HW5.out]; exact HS4.out.set 0 _
  have hsz5 : w5.heap.size = w4.heap.size := by rw [← HW5.out]; simp
  rw [HW5.out]
  have hr5 : Rdr k p (c + i + 1) q (bp1 + 1) bl1 L4 w5 := rdr_far HR4.out hks (fun b hb2 => by simp at hb2; subst hb2; exact HSBF.out)
  have hh5 : Held k.T wa.heap.size c (i + 1) (.slice a4 n4 k4) w5 := HH4.out.kp hks (fun b hb2 => by have := HSS.out; simp; omega)
  have hk5 : Kp (sb :: k.bs p) wa w5 := HK4.out.trans (hks.mono (by simp))
  have hg5 : 2 < w5.heap.size := by omega
  clear ct ft
  obtain ⟨c18, f18⟩ := at_ hr5.pb 18 hr5.at18
  have HR5 := Lib.hid hr5
  have HH5 := Lib.hid hh5
  have HK5 := Lib.hid hk5
  have HS5 := Lib.hid hs5
  clear hr5 hh5 hk5 hs5 hks HW5 HR4 HH4 HK4 HS4
  by_cases hv0 : q = 0
  · have hub : decide ((q : Int) < 1) = true := by simp; omega
    clear hv0
    go_wp2_with fail
    refine (ub_any k p (c + (i + 1)) q _ bl1 1 L4 w5 HR.out HR5.out (by omega) (by omega) hg5).mono ?_
    rintro e w6 ⟨rfl, hupd⟩
    have HU := Lib.hid (Uri.upd (i := i + 1) (n := n) (v0 := v0) (l0 := l0) (lo := wa.heap.size) (sb := sb) (w0 := wa) hupd H244.out H264.out H194.out HO5.out HK5.out (by omega) HS5.out (.inr ⟨by omega, HH5.out⟩) (fun g hg => (HFG.out g (by omega)).1) HSBF.out.1)
    clear hupd
    go_wp2_with fail
    exact HKK.out _ _ ⟨rfl, rfl, HIU.out.s0.symm, HIU.out.s4.symm, HIU.out.s11.symm⟩ rfl HU.out
  · have hub : decide ((q : Int) < 1) = false := by simp; omega
    have HV := Lib.hid hv0
    clear hv0
    go_wp2_with fail
    exact HKK.out _ _ ⟨rfl, rfl, HIU.out.s0.symm, HIU.out.s4.symm, HIU.out.s11.symm⟩ rfl ⟨by omega, ⟨⟨q, _, bl1, L4, HR5.out, by have := HV.out; omega, H244.out, H264.out, ⟨z4, H194.out⟩, HO5.out⟩, HK5.out⟩, _, HS5.out, .inr ⟨by omega, HH5.out⟩⟩
set_option maxHeartbeats 32000000 in
set_option maxRecDepth 100000 in
theorem uri_exit {k : Kn} {p c mi mc n sb ub i : Nat} {L : List Value} {wa wr : World} {v0 : Value} {l0 : List Int} {a : Act} {K : Act → World → Prop} {Q : Exit → Act → World → Prop} (hr : RoundOk k p) (hfg : ∀ g, wa.heap.size ≤ g → Far k p g) (hsbf : Far k p sb) (hsbs : sb < wa.heap.size) (hg : 2 < wa.heap.size) (hmi : mi ≤ 1000000) (hmc : mc ≤ 1000000) (hn : n ≤ 12)
    (hiu : InU p ub sb a) (hU : Uri k p c mi mc n wa.heap.size sb L wa v0 l0 i wr) (hend : Al.al (S k.T (c + i)) = false) (hx0 : 0 ≤ S k.T (c + i)) (hx1 : S k.T (c + i) < 128) (hex : S k.T (c + i) = 0 ∨ S k.T (c + i) = 9 ∨ S k.T (c + i) = 10 ∨ S k.T (c + i) = 13 ∨ S k.T (c + i) = 32 ∨ S k.T (c + i) = 62)
    (hQ : ∀ a' N, FrU a a' → gt a' 12 = gt a 12 → Q (.exit 0) a' (wr.drewN N)) :
    uBody.wp Tryd.prog (Exit.then K Q) a wr := by
  obtain ⟨hin, ⟨⟨u1, bp1, bl1, L1, hr1, hu1, h241, h261, ⟨z1, h191⟩, ho1⟩, hk1⟩, hvv⟩ := hU
  have hrd1 := hr1.ready 1 hu1
  have hsm1 := hr1.small
  have hge1 := adv_ge k.T (c + i) 1
  have hby := hr1.byte 0 (by omega)
  rw [Nat.add_zero, Nat.add_zero] at hby
  obtain ⟨y, HY⟩ : ∃ y, Hid (S k.T (c + i) = y) := ⟨_, rfl⟩
  rw [HY.out] at hby
  rw [HY.out] at hend hx0 hx1 hex
  have hyb : 0 ≤ y ∧ y ≤ 255 := by omega
  have hdc : ∀ N, Calls Tryd.prog 108 #[.slice (some ⟨k.q, 0, none⟩) bl1 1536, .int .i64 bp1] (wr.drewN N) fun e w' => e = .returned (.bool (Al.al y)) ∧ w' = wr.drewN N := fun N => (Al.al_any k.q 0 bl1 1536 bp1 y (by omega) (by omega) hyb.1 hyb.2 (wr.drewN N) (by rw [Nat.zero_add]; exact hby)).mono fun _ _ h => ⟨h.1, h.2.symm⟩
  obtain ⟨c16, f16⟩ := at_ hr1.pb 16 hr1.at16
  obtain ⟨c17, f17⟩ := at_ hr1.pb 17 hr1.at17
  have j1 : (bp1 : Int) < (bl1 : Int) := by omega
  have j0 : (0 : Int) ≤ (bp1 : Int) := by omega
  have HR1 := Lib.hid hr1
  have H241 := Lib.hid h241
  have H261 := Lib.hid h261
  have H191 := Lib.hid h191
  have HO1 := Lib.hid ho1
  have HK1 := Lib.hid hk1
  have hsz1 := hk1.size
  have hv541 := rdr_u hr1
  have hg1 : 2 < wr.heap.size := by omega
  have HFG := Lib.hid hfg
  have HR := Lib.hid hr
  have HSBF := Lib.hid hsbf
  have HSS := Lib.hid hsbs
  have HIU := Lib.hid hiu
  have y59 : (y == 59) = false := by rw [beq_eq_false_iff_ne]; omega
  have y47 : (y == 47) = false := by rw [beq_eq_false_iff_ne]; omega
  have y63 : (y == 63) = false := by rw [beq_eq_false_iff_ne]; omega
  have y58 : (y == 58) = false := by rw [beq_eq_false_iff_ne]; omega
  have y64 : (y == 64) = false := by rw [beq_eq_false_iff_ne]; omega
  have y38 : (y == 38) = false := by rw [beq_eq_false_iff_ne]; omega
  have y61 : (y == 61) = false := by rw [beq_eq_false_iff_ne]; omega
  have y43 : (y == 43) = false := by rw [beq_eq_false_iff_ne]; omega
  have y36 : (y == 36) = false := by rw [beq_eq_false_iff_ne]; omega
  have y44 : (y == 44) = false := by rw [beq_eq_false_iff_ne]; omega
  have y46 : (y == 46) = false := by rw [beq_eq_false_iff_ne]; omega
  have y33 : (y == 33) = false := by rw [beq_eq_false_iff_ne]; omega
  have y126 : (y == 126) = false := by rw [beq_eq_false_iff_ne]; omega
  have y42 : (y == 42) = false := by rw [beq_eq_false_iff_ne]; omega
  have y39 : (y == 39) = false := by rw [beq_eq_false_iff_ne]; omega
  have y40 : (y == 40) = false := by rw [beq_eq_false_iff_ne]; omega
  have y41 : (y == 41) = false := by rw [beq_eq_false_iff_ne]; omega
  have y91 : (y == 91) = false := by rw [beq_eq_false_iff_ne]; omega
  have y93 : (y == 93) = false := by rw [beq_eq_false_iff_ne]; omega
  have y37 : (y == 37) = false := by rw [beq_eq_false_iff_ne]; omega
  rw [hend] at hdc
  have HDC := Lib.hid hdc
  have HQQ := Lib.hid hQ
  clear hr1 h241 h261 h191 ho1 hk1 hrd1 hge1 hdc hend hyb hex hQ hr hfg hsbf hsbs hvv
  rw [lit340 a hiu.size hiu.defers, hiu.s0, hiu.s4, hiu.s11]
  clear hiu
  conv => arg 2; whnf
  try simp only [List.append]
  go_wp2_with fail
  refine wp_region_quiet_lit (by kernel_rfl) (Sp.lexB_chain _ 33 (by kernel_rfl)) ?_
  repeat (go_big_quiet_step ((go_at_call 108; exact Calls.quiet_of_same (HDC.out _))))
  refine wpQuiet_nil ?_
  rintro _ ⟨N, rfl⟩
  go_wp2_with fail
  exact HQQ.out _ _ ⟨rfl, rfl, HIU.out.s0.symm, HIU.out.s4.symm, HIU.out.s11.symm⟩ rfl
end Go.Proofs.YtocbbekciphjgaaDoor.Sc
