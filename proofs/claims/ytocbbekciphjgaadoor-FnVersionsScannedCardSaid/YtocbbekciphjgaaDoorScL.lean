/- FnVersionsScanned: the law's walk. -/
import Derived.Test.YtocbbekciphjgaaDoorScK
namespace Go.Proofs.YtocbbekciphjgaaDoor.Sc
open Go.RowKit Go.Proofs.YtocbbekciphjgaaDoor.Rdp Go.Proofs.YtocbbekciphjgaaDoor.Pa
set_option linter.unusedVariables false
set_option linter.unusedSimpArgs false
theorem str0 : ({ data := #[] } : ByteArray) = strOfNums [] := rfl
theorem str46 : ({ data := #[46] } : ByteArray) = strOfNums [46] := rfl
theorem str32 : ({ data := #[32] } : ByteArray) = strOfNums [32] := rfl
theorem str10 : ({ data := #[10] } : ByteArray) = strOfNums [10] := rfl
theorem str4 : ({ data := #[32, 35, 32, 120, 10] } : ByteArray) = strOfNums [32, 35, 32, 120, 10] := rfl
/-- What stands behind a version. -/
def tail (d : Nat) : List Int := match d with
  | 0 => []
  | 1 => [32]
  | 2 => [10]
  | _ => [32, 35, 32, 120, 10]
theorem tail_ok (d : Nat) : (tail d).length ≤ 10 ∧ (∀ x, x ∈ tail d → Ok1 x) ∧ isDigit (S (tail d) 0) = false := by
  have : d = 0 ∨ d = 1 ∨ d = 2 ∨ 3 ≤ d := by omega
  rcases this with rfl | rfl | rfl | h
  · exact ⟨by simp [tail], fun x hx => by simp [tail] at hx, rfl⟩
  · exact ⟨by simp [tail], fun x hx => by simp [tail] at hx; unfold Ok1; omega, rfl⟩
  · exact ⟨by simp [tail], fun x hx => by simp [tail] at hx; unfold Ok1; omega, rfl⟩
  · obtain ⟨e, rfl⟩ : ∃ e, d = e + 3 := ⟨d - 3, by omega⟩
    exact ⟨by simp [tail], fun x hx => by simp [tail] at hx; unfold Ok1; omega, rfl⟩
set_option maxHeartbeats 8000000 in
set_option maxRecDepth 100000 in
theorem law_any (a b c d : Nat) (ha : a < 256) (hb : b < 256) (hc : c < 256) (hd : d < 256) (w : World) (E : Value) (hE : w.cell? ⟨2, 0, none⟩ = some E) (hEof : IsEof E) :
    Calls Tryd.prog 4 #[.int .u8 a, .int .u8 b, .int .u8 c, .int .u8 d] w fun e w' => e = .returned (.bool true) ∧ Below w.heap.size w w' := by
  have hg : 2 < w.heap.size := World.block_lt_of_cell? w ⟨2, 0, none⟩ hE
  have q1 : Int.tmod (a : Int) 100 = ((a % 100 : Nat) : Int) := by rw [Int.tmod_eq_emod_of_nonneg (by omega)]; omega
  have q2 : Int.tmod (b : Int) 100 = ((b % 100 : Nat) : Int) := by rw [Int.tmod_eq_emod_of_nonneg (by omega)]; omega
  have q3 : Int.tmod (c : Int) 4 = ((c % 4 : Nat) : Int) := by rw [Int.tmod_eq_emod_of_nonneg (by omega)]; omega
  have q4 : Int.tmod (d : Int) 4 = ((d % 4 : Nat) : Int) := by rw [Int.tmod_eq_emod_of_nonneg (by omega)]; omega
  obtain ⟨mj, hmj, hj⟩ : ∃ mj, a % 100 = mj ∧ mj < 100 := ⟨_, rfl, by omega⟩
  obtain ⟨mn, hmn, hn⟩ : ∃ mn, b % 100 = mn ∧ mn < 100 := ⟨_, rfl, by omega⟩
  obtain ⟨s, hs, hs3⟩ : ∃ s, c % 4 = s ∧ s ≤ 3 := ⟨_, rfl, by omega⟩
  obtain ⟨t, ht, ht3⟩ : ∃ t, d % 4 = t ∧ t ≤ 3 := ⟨_, rfl, by omega⟩
  rw [hmj] at q1
  rw [hmn] at q2
  rw [hs] at q3
  rw [ht] at q4
  have HE := Lib.hid hE
  have HEE := Lib.hid hEof
  clear hE hEof hmj hmn hs ht
  have fsp := spaces_any s hs3
  have fdj := digits_any mj hj
  have fdn := digits_any mn hn
  have zA : (strOfNums (List.replicate s 32)).size ≤ 3 := by rw [str_size, List.length_replicate]; exact hs3
  have zB : (strOfNums (dig mj)).size ≤ 2 := by rw [str_size]; exact (dig_len mj).2
  have zD : (strOfNums (dig mn)).size ≤ 2 := by rw [str_size]; exact (dig_len mn).2
  have zT : (strOfNums (tail t)).size ≤ 10 := by rw [str_size]; exact (tail_ok t).1
  obtain ⟨sA, HA⟩ : ∃ sA, Hid (strOfNums (List.replicate s 32) = sA) := ⟨_, rfl⟩
  obtain ⟨sB, HB⟩ : ∃ sB, Hid (strOfNums (dig mj) = sB) := ⟨_, rfl⟩
  obtain ⟨sD, HD⟩ : ∃ sD, Hid (strOfNums (dig mn) = sD) := ⟨_, rfl⟩
  obtain ⟨sT, HT⟩ : ∃ sT, Hid (strOfNums (tail t) = sT) := ⟨_, rfl⟩
  have hs3' := hs3
  rw [HA.out] at fsp zA
  rw [HB.out] at fdj zB
  rw [HD.out] at fdn zD
  rw [HT.out] at zT
  have FSP := Lib.hid fsp
  have FDJ := Lib.hid fdj
  have FDN := Lib.hid fdn
  clear fsp fdj fdn
  go_enter Tryd.func4, Tryd.ntmps4
  go_upto_region 4 with fail
  obtain ⟨wa, HWA⟩ : ∃ wa : World, Hid (w.alloc (.cells #[.string ⟨#[]⟩, .string ⟨#[32]⟩, .string ⟨#[10]⟩, .string ⟨#[32, 35, 32, 120, 10]⟩] 9) = wa) := ⟨_, rfl⟩
  have hba : Below w.heap.size w wa := by rw [← HWA.out]; exact (Below.refl _ _).alloc (Nat.le_refl _) _
  have hta : wa.cell? ⟨w.heap.size, t, none⟩ = some (.string sT) := by
    rw [← HWA.out, ← HT.out]
    have : t = 0 ∨ t = 1 ∨ t = 2 ∨ t = 3 := by omega
    rcases this with rfl | rfl | rfl | rfl <;> simp [tail] <;> rfl
  have hsa : wa.heap.size = w.heap.size + 1 := by rw [← HWA.out]; simp
  rw [HWA.out]
  have HBA := Lib.hid hba
  have HTA := Lib.hid hta
  clear hba hta
  go_wp2_with fail
  refine (FSP.out wa).mono ?_
  rintro e w1 ⟨rfl, hb1⟩
  have HB1 := Lib.hid hb1
  have hs1 := hb1.size
  clear hb1
  go_wp2_with fail
  refine (FDJ.out w1).mono ?_
  rintro e w2 ⟨rfl, hb2⟩
  have HB2 := Lib.hid hb2
  have hs2 := hb2.size
  clear hb2
  go_wp2_with fail
  refine (FDN.out w2).mono ?_
  rintro e w3 ⟨rfl, hb3⟩
  have HB3 := Lib.hid hb3
  have hs3 := hb3.size
  clear hb3
  go_upto_region 5 with fail
  have hP : sA ++ sB ++ { data := #[46] } ++ sD = strOfNums (List.replicate s 32 ++ dig mj ++ [46] ++ dig mn) := by rw [← HA.out, ← HB.out, ← HD.out, str46, str_append, str_append, str_append]
  obtain ⟨tl1, tl2, tl3⟩ := tail_ok t
  obtain ⟨T, nn, n1, n2, sP, HSP, HTX, zP, HTT⟩ : ∃ (T : List Int) (nn n1 n2 : Nat) (sP : ByteArray), Hid (strOfNums (List.replicate s 32 ++ dig mj ++ [46] ++ dig mn) = sP) ∧ Hid (Txt T s mj mn nn n1 n2) ∧ sP.size = nn ∧ Hid (strOfNums T = sP ++ sT) :=
    ⟨_, _, _, _, _, Lib.hid rfl, Lib.hid (txt s mj mn (tail t) hs3' hj hn tl1 tl2 tl3), str_size _, Lib.hid (by rw [← HT.out, str_append])⟩
  rw [hP, HSP.out]
  have hT3 : w3.cell? ⟨w.heap.size, t, none⟩ = some (.string sT) := by
    rw [HB3.out.cell (p := ⟨w.heap.size, t, none⟩) (by show w.heap.size < _; omega), HB2.out.cell (p := ⟨w.heap.size, t, none⟩) (by show w.heap.size < _; omega), HB1.out.cell (p := ⟨w.heap.size, t, none⟩) (by show w.heap.size < _; omega)]
    exact HTA.out
  have hbw3 : Below w.heap.size w w3 := ((HBA.out.trans (HB1.out.mono (by omega))).trans (HB2.out.mono (by omega))).trans (HB3.out.mono (by omega))
  have HBW3 := Lib.hid hbw3
  obtain ⟨cc, w4, hrun, hcap, hb4, hin4, hs4⟩ := conv_str T HTX.out.range w3
  rw [HTT.out] at hrun
  have hbw4 : Below w.heap.size w w4 := hbw3.trans (hb4.mono (by omega))
  have hE4 : w4.cell? ⟨2, 0, none⟩ = some E := by rw [hbw4.cell (p := ⟨2, 0, none⟩) hg]; exact HE.out
  have hv := ver_ok (some ⟨w3.heap.size, 0, none⟩) T cc E s n1 n2 w4 hE4 HEE.out hin4 HTX.out.asc (by have := HTX.out.len; omega) hcap (by omega) HTX.out.bl HTX.out.l1 HTX.out.l2 HTX.out.d1 HTX.out.dot HTX.out.l3 HTX.out.l4 HTX.out.d2 HTX.out.fin
  rw [HTX.out.v1, HTX.out.v2, HTX.out.all] at hv
  have hv' : Calls Tryd.prog 15 #[.slice (some ⟨w3.heap.size, 0, none⟩) T.length cc] w4 fun e w' => e = .returned (.tuple #[.int .i64 (mj : Nat), .int .i64 (mn : Nat), .agg #[.int .i64 (nn : Nat), .int .i64 0, .int .i64 (nn : Nat)], .agg #[.int .i64 0, .int .i64 0, .int .i64 0, .int .i64 0, .int .i64 0, .int .i64 0, .int .i64 0, .int .i64 0, .int .i64 0]]) ∧ Below w4.heap.size w4 w' := hv
  have HV := Lib.hid hv'
  have HBW4 := Lib.hid hbw4
  have zn : nn ≤ 1000 := by have x1 := HTX.out.all; have x2 := HTX.out.l2; have x3 := HTX.out.l4; have x4 := HTX.out.s3; omega
  have b1 : decide ((t : Int) < 4) = true := by simp; omega
  have t0 : (0 : Int) ≤ (t : Int) := by omega
  have t4 : (t : Int) < 4 := by omega
  clear hP tl1 tl2 tl3 hb4 hin4 hE4 hv hv' hbw3 hbw4
  go_wp2_with fail
  refine HV.out.mono ?_
  rintro e w5 ⟨rfl, hb5⟩
  have HB5 := Lib.hid hb5
  have hs5 := hb5.size
  clear hb5 hrun hT3
  go_upto_region 6 with fail
  obtain ⟨w6, HW6⟩ : ∃ w6 : World, Hid ((w5.alloc (.cells #[.int .i64 (nn : Nat), .int .i64 0, .int .i64 (nn : Nat)] 29)).alloc (.cells #[.int .i64 0, .int .i64 0, .int .i64 0, .int .i64 0, .int .i64 0, .int .i64 0, .int .i64 0, .int .i64 0, .int .i64 0] 31) = w6) := ⟨_, rfl⟩
  have k0 : w6.cell? ⟨w5.heap.size, 0, none⟩ = some (.int .i64 (nn : Nat)) := by rw [← HW6.out]; simp
  have k2 : w6.cell? ⟨w5.heap.size, 2, none⟩ = some (.int .i64 (nn : Nat)) := by rw [← HW6.out]; simp
  have kf : w6.cell? ⟨w5.heap.size + 1, 0, none⟩ = some (.int .i64 0) := by rw [← HW6.out]; simp
  have hb6 : Below w5.heap.size w5 w6 := by rw [← HW6.out]; exact ((Below.refl _ _).alloc (Nat.le_refl _) _).alloc (by simp) _
  have hs6 : w6.heap.size = w5.heap.size + 2 := by rw [← HW6.out]; simp
  have hbw6 : Below w.heap.size w w6 := ((HBW4.out.trans (HB5.out.mono (by omega)))).trans (hb6.mono (by omega))
  have K0 := Lib.hid k0
  have K2 := Lib.hid k2
  have KF := Lib.hid kf
  have HBW6 := Lib.hid hbw6
  clear k0 k2 kf hb6 hbw6
  rw [HW6.out]
  clear HW6 HV HTX HTA HB1 HB2 HB3 HB5 HBA HWA HBW3 HBW4
  go_wp2_with fail
  refine (FDJ.out w6).mono ?_
  rintro e w7 ⟨rfl, hb7⟩
  have hs7 := hb7.size
  have hbw7 : Below w.heap.size w w7 := HBW6.out.trans (hb7.mono (by omega))
  have hE7 : w7.cell? ⟨2, 0, none⟩ = some E := by rw [hbw7.cell (p := ⟨2, 0, none⟩) hg]; exact HE.out
  have hQ : sB ++ { data := #[10] } = strOfNums (dig mj ++ [10]) := by rw [← HB.out, str10, str_append]
  obtain ⟨U, n3, sU, HSU, HBD, HUU, zU⟩ : ∃ (U : List Int) (n3 : Nat) (sU : ByteArray), Hid (strOfNums (dig mj ++ [10]) = sU) ∧ Hid (Bad U n3) ∧ Hid (strOfNums U = sU) ∧ Hid (True) :=
    ⟨_, _, _, Lib.hid rfl, Lib.hid (bad mj hj), Lib.hid rfl, Lib.hid trivial⟩
  obtain ⟨c8, w8, hrun8, hcap8, hb8, hin8, hs8⟩ := conv_str U HBD.out.range w7
  rw [HUU.out, ← HSU.out, ← hQ] at hrun8
  have hbw8 : Below w.heap.size w w8 := hbw7.trans (hb8.mono (by omega))
  have hE8 : w8.cell? ⟨2, 0, none⟩ = some E := by rw [hbw8.cell (p := ⟨2, 0, none⟩) hg]; exact HE.out
  have hv := ver_bad (some ⟨w7.heap.size, 0, none⟩) U c8 E 0 n3 w8 hE8 HEE.out hin8 HBD.out.asc (by have := HBD.out.len; omega) hcap8 (by omega) HBD.out.bl HBD.out.l1 HBD.out.l2 HBD.out.d1 HBD.out.dot HBD.out.fin
  have hb68 : Below w6.heap.size w6 w8 := hb7.trans (hb8.mono hs7)
  have HB68 := Lib.hid hb68
  have HV := Lib.hid hv
  have HBW8 := Lib.hid hbw8
  clear hb7 hbw7 hE7 hQ hb8 hin8 hE8 hv hb68 hbw8 HBW6
  go_wp2_with fail
  refine HV.out.mono ?_
  rintro e w9 ⟨⟨z2, z3, a0, a1, a2, b0, b1, b2, rfl⟩, hb9⟩
  have hs9 := hb9.size
  have hbw9 : Below w.heap.size w w9 := HBW8.out.trans (hb9.mono (by omega))
  have hb69 : Below w6.heap.size w6 w9 := HB68.out.trans (hb9.mono (by omega))
  have HBW9 := Lib.hid hbw9
  have k0 : w9.cell? ⟨w5.heap.size, 0, none⟩ = some (.int .i64 (nn : Nat)) := by rw [hb69.cell (p := ⟨w5.heap.size, 0, none⟩) (by show w5.heap.size < _; omega)]; exact K0.out
  have k2 : w9.cell? ⟨w5.heap.size, 2, none⟩ = some (.int .i64 (nn : Nat)) := by rw [hb69.cell (p := ⟨w5.heap.size, 2, none⟩) (by show w5.heap.size < _; omega)]; exact K2.out
  have kf : w9.cell? ⟨w5.heap.size + 1, 0, none⟩ = some (.int .i64 0) := by rw [hb69.cell (p := ⟨w5.heap.size + 1, 0, none⟩) (by show w5.heap.size + 1 < _; omega)]; exact KF.out
  have n5 : ¬ w5.heap.size = w9.heap.size := by omega
  have n6 : ¬ w5.heap.size = w9.heap.size + 1 := by omega
  have n7 : ¬ w5.heap.size + 1 = w9.heap.size := by omega
  have n8 : w5.heap.size < w9.heap.size := by omega
  have n9 : w5.heap.size + 1 < w9.heap.size := by omega
  unfold tri nine
  clear hb9 hbw9 hb69 hrun8 HV HB68 HBW8 K0 K2 KF
  go_wp2_with fail
  go_ret
  have hlw := HBW9.out.size
  exact ⟨rfl, (HBW9.out.alloc hlw _).alloc (by rw [World.size_alloc]; omega) _⟩
theorem law_walk (a b c d : Int) (W : World) (E : Value) (hE : W.cell? ⟨2, 0, none⟩ = some E) (hEof : IsEof E) (ha : (Lit.int .u8 a).wf = true) (hb : (Lit.int .u8 b).wf = true) (hc : (Lit.int .u8 c).wf = true) (hd : (Lit.int .u8 d).wf = true) :
    Calls Tryd.prog 4 #[.int .u8 a, .int .u8 b, .int .u8 c, .int .u8 d] W fun e W' => e = .returned (.bool true) ∧ Below W.heap.size W W' := by
  have f : ∀ x : Int, (Lit.int .u8 x).wf = true → 0 ≤ x ∧ x < 256 := fun x hx => by
    simp [Lit.wf, IntKind.min, IntKind.max, IntKind.signed, IntKind.bits] at hx
    omega
  obtain ⟨a0, a1⟩ := f a ha
  obtain ⟨b0, b1⟩ := f b hb
  obtain ⟨c0, c1⟩ := f c hc
  obtain ⟨d0, d1⟩ := f d hd
  have := law_any a.toNat b.toNat c.toNat d.toNat (by omega) (by omega) (by omega) (by omega) W E hE hEof
  rw [Int.toNat_of_nonneg a0, Int.toNat_of_nonneg b0, Int.toNat_of_nonneg c0, Int.toNat_of_nonneg d0] at this
  exact this
end Go.Proofs.YtocbbekciphjgaaDoor.Sc
