/- FnAnchorsScanned: the law's walk. -/
import Derived.Test.YtocbbekciphjgaaDoorAnK
namespace Go.Proofs.YtocbbekciphjgaaDoor.An
open Go.RowKit Go.Proofs.YtocbbekciphjgaaDoor.Rdp Go.Proofs.YtocbbekciphjgaaDoor.Pa Go.Proofs.YtocbbekciphjgaaDoor.Sc
set_option linter.unusedVariables false
set_option linter.unusedSimpArgs false
theorem str38 : ({ data := #[38] } : ByteArray) = strOfNums [38] := rfl
theorem str42 : ({ data := #[42] } : ByteArray) = strOfNums [42] := rfl
theorem cut_one (c : Int) (r : List Int) (m : Nat) (hm : m = 1 + r.length) : (strOfNums ([c] ++ r)).extract 1 m = strOfNums r := by
  subst hm
  apply ByteArray.ext
  rw [ByteArray.data_extract]
  unfold strOfNums
  simp
  rw [List.take_of_length_le (by simp)]
set_option maxHeartbeats 8000000 in
set_option maxRecDepth 100000 in
theorem law_any (s : ByteArray) (b : Bool) (d : Nat) (hd : d < 256) (hs : s.size ≤ 2147483647) (w : World) (E : Value) (hE : w.cell? ⟨2, 0, none⟩ = some E) (hEof : IsEof E) :
    Calls Tryd.prog 5 #[.string s, .bool b, .int .u8 d] w fun e w' => e = .returned (.bool true) ∧ Below w.heap.size w w' := by
  have hg : 2 < w.heap.size := World.block_lt_of_cell? w ⟨2, 0, none⟩ hE
  have q1 : Int.tmod (d : Int) 11 = ((d % 11 : Nat) : Int) := by rw [Int.tmod_eq_emod_of_nonneg (by omega)]; omega
  obtain ⟨t, ht, ht3⟩ : ∃ t, d % 11 = t ∧ t < 11 := ⟨_, rfl, by omega⟩
  rw [ht] at q1
  obtain ⟨nl, hnm, hn1, hn8, hal⟩ := name_list s
  have fnd := fun W => Nd.nd_any s W hs
  rw [hnm] at fnd
  have zN : (strOfNums nl).size = nl.length := str_size nl
  have zT : (strOfNums (tail t)).size ≤ 3 := by rw [str_size]; exact (tail_ok t ht3).1
  obtain ⟨sN, HN⟩ : ∃ sN, Hid (strOfNums nl = sN) := ⟨_, rfl⟩
  obtain ⟨sT, HT⟩ : ∃ sT, Hid (strOfNums (tail t) = sT) := ⟨_, rfl⟩
  rw [HN.out] at fnd zN
  rw [HT.out] at zT
  obtain ⟨n, hn⟩ : ∃ n, nl.length = n := ⟨_, rfl⟩
  rw [hn] at zN hn1 hn8
  have HNN := Lib.hid hn
  have HE := Lib.hid hE
  have HEE := Lib.hid hEof
  have HAL := Lib.hid hal
  have FND := Lib.hid fnd
  have h0 : decide (2147483647 < (s.size : Int)) = false := by simp; omega
  have h0' : decide (2147483647 < s.size) = false := by simp; omega
  clear hE hEof ht fnd hnm hn hal
  go_enter Tryd.func5, Tryd.ntmps5
  go_wp2_with fail
  refine (FND.out w).mono ?_
  rintro e w1 ⟨rfl, hb1⟩
  have hs1 := hb1.size
  have HB1 := Lib.hid hb1
  clear hb1
  go_upto_region 5 with fail
  obtain ⟨wa, HWA⟩ : ∃ wa : World, Hid (w1.alloc (.cells #[.string ⟨#[]⟩, .string ⟨#[32]⟩, .string ⟨#[9]⟩, .string ⟨#[10]⟩, .string ⟨#[13, 10]⟩, .string ⟨#[44]⟩, .string ⟨#[93]⟩, .string ⟨#[125]⟩, .string ⟨#[32, 120]⟩, .string ⟨#[44, 32, 120]⟩, .string ⟨#[10, 38, 120]⟩] 9) = wa) := ⟨_, rfl⟩
  have hba : Below w1.heap.size w1 wa := by rw [← HWA.out]; exact (Below.refl _ _).alloc (Nat.le_refl _) _
  have hta : wa.cell? ⟨w1.heap.size, t, none⟩ = some (.string sT) := by
    rw [← HWA.out, ← HT.out]
    have : t = 0 ∨ t = 1 ∨ t = 2 ∨ t = 3 ∨ t = 4 ∨ t = 5 ∨ t = 6 ∨ t = 7 ∨ t = 8 ∨ t = 9 ∨ t = 10 := by omega
    rcases this with rfl | rfl | rfl | rfl | rfl | rfl | rfl | rfl | rfl | rfl | rfl <;> simp [tail] <;> rfl
  have hsa : wa.heap.size = w1.heap.size + 1 := by rw [← HWA.out]; simp
  rw [HWA.out]
  have HBA := Lib.hid (HB1.out.trans (hba.mono hs1))
  clear hba HB1 HWA
  have b1 : decide ((t : Int) < 11) = true := by simp; omega
  have t0 : (0 : Int) ≤ (t : Int) := by omega
  have t4 : (t : Int) < 11 := by omega
  cases b with
  | false =>
    go_upto_region 9 with fail
    have tx := text 38 (by omega) nl (by rw [HNN.out]; exact hn1) (by rw [HNN.out]; exact hn8) HAL.out t ht3
    obtain ⟨_, _, x, hxx, e1, e2, e3, e4⟩ := tail_ok t ht3
    rw [hxx, HNN.out] at tx
    have zL : (tail t).length = sT.size := by rw [← HT.out, str_size]
    have hP : { data := #[38] } ++ sN ++ sT = strOfNums ([38] ++ nl ++ tail t) := by
      rw [← HN.out, ← HT.out, str38, str_append, str_append]
    obtain ⟨T, HTX, HTT⟩ : ∃ T, Hid (Text T n x nl) ∧ Hid (strOfNums T = { data := #[38] } ++ sN ++ sT) := ⟨_, Lib.hid tx, Lib.hid hP.symm⟩
    clear hP tx hxx zL
    obtain ⟨cc, w4, hrun, hcap, hb4, hin4, hs4⟩ := conv_str T HTX.out.range wa
    rw [HTT.out] at hrun
    have hbw4 : Below w.heap.size w w4 := HBA.out.trans (hb4.mono (by omega))
    have hE4 : w4.cell? ⟨2, 0, none⟩ = some E := by rw [hbw4.cell (p := ⟨2, 0, none⟩) hg]; exact HE.out
    have hv := anchor_ok (some ⟨wa.heap.size, 0, none⟩) T cc n x E w4 hE4 HEE.out hin4 HTX.out.asc (by have := HTX.out.len; omega) hcap HTX.out.first HTX.out.name hn1 hn8 HTX.out.fin e1 e2 e3 e4
    rw [HTX.out.list, show ((0 + 1 + n : Nat) : Int) = 1 + (n : Int) by omega] at hv
    simp only [full, nine, HN.out] at hv
    rw [hsa] at hv
    have HV := Lib.hid hv
    have HBW4 := Lib.hid hbw4
    clear hb4 hin4 hE4 hv hbw4 e1 e2 e3 e4
    go_wp2_with fail
    refine HV.out.mono ?_
    rintro e w5 ⟨rfl, hb5⟩
    have hs5 := hb5.size
    have HB5 := Lib.hid hb5
    clear hb5 hrun
    go_wp2_with fail
    go_ret
    have hbw5 := HBW4.out.trans (HB5.out.mono (by omega))
    have hlw := hbw5.size
    exact ⟨rfl, (hbw5.alloc hlw _).alloc (by rw [World.size_alloc]; omega) _⟩
  | true =>
    go_upto_region 9 with fail
    have tx := text 42 (by omega) nl (by rw [HNN.out]; exact hn1) (by rw [HNN.out]; exact hn8) HAL.out t ht3
    obtain ⟨_, _, x, hxx, e1, e2, e3, e4⟩ := tail_ok t ht3
    rw [hxx, HNN.out] at tx
    have zL : (tail t).length = sT.size := by rw [← HT.out, str_size]
    have hP : { data := #[42] } ++ ({ data := #[38] } ++ sN ++ sT).extract 1 (1 + n + sT.size) = strOfNums ([42] ++ nl ++ tail t) := by
      rw [← zL, ← HN.out, ← HT.out, str38, str42, str_append, str_append, List.append_assoc, cut_one 38 (nl ++ tail t) _ (by rw [List.length_append, HNN.out]; omega), str_append, List.append_assoc]
    obtain ⟨T, HTX, HTT⟩ : ∃ T, Hid (Text T n x nl) ∧ Hid (strOfNums T = { data := #[42] } ++ ({ data := #[38] } ++ sN ++ sT).extract 1 (1 + n + sT.size)) := ⟨_, Lib.hid tx, Lib.hid hP.symm⟩
    clear hP tx hxx zL
    obtain ⟨cc, w4, hrun, hcap, hb4, hin4, hs4⟩ := conv_str T HTX.out.range wa
    rw [HTT.out] at hrun
    have hbw4 : Below w.heap.size w w4 := HBA.out.trans (hb4.mono (by omega))
    have hE4 : w4.cell? ⟨2, 0, none⟩ = some E := by rw [hbw4.cell (p := ⟨2, 0, none⟩) hg]; exact HE.out
    have hv := alias_ok (some ⟨wa.heap.size, 0, none⟩) T cc n x E w4 hE4 HEE.out hin4 HTX.out.asc (by have := HTX.out.len; omega) hcap HTX.out.first HTX.out.name hn1 hn8 HTX.out.fin e1 e2 e3 e4
    rw [HTX.out.list, show ((0 + 1 + n : Nat) : Int) = 1 + (n : Int) by omega] at hv
    simp only [full, nine, HN.out] at hv
    rw [hsa] at hv
    have HV := Lib.hid hv
    have HBW4 := Lib.hid hbw4
    clear hb4 hin4 hE4 hv hbw4 e1 e2 e3 e4
    go_wp2_with fail
    refine HV.out.mono ?_
    rintro e w5 ⟨rfl, hb5⟩
    have hs5 := hb5.size
    have HB5 := Lib.hid hb5
    clear hb5 hrun
    go_wp2_with fail
    go_ret
    have hbw5 := HBW4.out.trans (HB5.out.mono (by omega))
    have hlw := hbw5.size
    exact ⟨rfl, (hbw5.alloc hlw _).alloc (by rw [World.size_alloc]; omega) _⟩
set_option maxHeartbeats 1000000 in
theorem law_great (s : ByteArray) (b : Bool) (d : Int) (hs : 2147483647 < s.size) (hm : s.size ≤ 140737488351232) (w : World) :
    Calls Tryd.prog 5 #[.string s, .bool b, .int .u8 d] w fun e w' => e = .returned (.bool true) ∧ Below w.heap.size w w' := by
  have h0 : decide (2147483647 < (s.size : Int)) = true := by simp; omega
  have h0' : decide (2147483647 < s.size) = true := by simp; omega
  go_enter Tryd.func5, Tryd.ntmps5
  go_wp2_with fail
  go_ret
  exact ⟨rfl, Below.refl _ _⟩
theorem law_walk (a : ByteArray) (b : Bool) (d : Int) (W : World) (E : Value) (hE : W.cell? ⟨2, 0, none⟩ = some E) (hEof : IsEof E) (ha : a.size ≤ 140737488351232) (hd : (Lit.int .u8 d).wf = true) :
    Calls Tryd.prog 5 #[.string a, .bool b, .int .u8 d] W fun e W' => e = .returned (.bool true) ∧ Below W.heap.size W W' := by
  have f : 0 ≤ d ∧ d < 256 := by
    simp [Lit.wf, IntKind.min, IntKind.max, IntKind.signed, IntKind.bits] at hd
    omega
  by_cases hs : a.size ≤ 2147483647
  · have := law_any a b d.toNat (by omega) hs W E hE hEof
    rw [Int.toNat_of_nonneg f.1] at this
    exact this
  · exact law_great a b d (by omega) ha W
end Go.Proofs.YtocbbekciphjgaaDoor.An
