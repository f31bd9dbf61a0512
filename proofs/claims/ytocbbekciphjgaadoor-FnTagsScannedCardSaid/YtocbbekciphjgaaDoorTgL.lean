/- FnTagsScanned: the law's texts, and its walk, form by form. Printed by genTgL.py, the plain part by hand. -/
import Derived.Test.YtocbbekciphjgaaDoorTgF
import Derived.Test.YtocbbekciphjgaaDoorAnK
namespace Go.Proofs.YtocbbekciphjgaaDoor.Tg
open Go.RowKit Go.Proofs.YtocbbekciphjgaaDoor.Rdp Go.Proofs.YtocbbekciphjgaaDoor.Pa Go.Proofs.YtocbbekciphjgaaDoor.Sc
set_option linter.unusedVariables false
set_option linter.unusedSimpArgs false
/-- What stands behind a tag. -/
def tail (d : Nat) : List Int := match d with
  | 0 => []
  | 1 => [32]
  | 2 => [9]
  | 3 => [10]
  | 4 => [13, 10]
  | _ => [32, 120]
theorem tail_ok (d : Nat) (hd : d < 6) : (tail d).length ≤ 2 ∧ (∀ x, x ∈ tail d → Ok1 x) ∧ (S (tail d) 0 = 0 ∨ S (tail d) 0 = 9 ∨ S (tail d) 0 = 10 ∨ S (tail d) 0 = 13 ∨ S (tail d) 0 = 32) := by
  have : d = 0 ∨ d = 1 ∨ d = 2 ∨ d = 3 ∨ d = 4 ∨ d = 5 := by omega
  rcases this with rfl | rfl | rfl | rfl | rfl | rfl <;>
    refine ⟨by simp [tail], fun x hx => by (simp [tail] at hx <;> (unfold Ok1; omega)), ?_⟩ <;>
    first | exact .inl rfl | exact .inr (.inl rfl) | exact .inr (.inr (.inl rfl)) | exact .inr (.inr (.inr (.inl rfl))) | exact .inr (.inr (.inr (.inr rfl)))
theorem map_S (T B : List Int) (a : Nat) (h : ∀ i, i < B.length → S T (a + i) = S B i) : ((List.range B.length).map fun j => S T (a + j)) = B := by
  apply List.ext_getElem
  · simp
  · intro i hi1 hi2
    simp only [List.getElem_map, List.getElem_range]
    rw [h i hi2]
    unfold S
    rw [List.getD_eq_getElem?_getD, List.getElem?_eq_getElem hi2]
    rfl
theorem al_ok {x : Int} (h : Al.al x = true) : Ok1 x ∧ x ≠ 60 := by
  unfold Al.al at h
  rw [decide_eq_true_eq] at h
  unfold Ok1
  omega
/-- What a tag's text is. -/
structure Text (T X lh ls : List Int) : Prop where
  len : T.length ≤ 1000
  range : ∀ x, x ∈ T → 0 ≤ x ∧ x < 256
  asc : ∀ i, i < T.length → Ok1 (S T i)
  one : ∀ i, cw (S T i) = 1
  way : Sc.Way T 0 X.length lh ls
  le : X.length ≤ 100
  fin : S T (0 + X.length) = 0 ∨ S T (0 + X.length) = 9 ∨ S T (0 + X.length) = 10 ∨ S T (0 + X.length) = 13 ∨ S T (0 + X.length) = 32
theorem text_of (X lh ls : List Int) (d : Nat) (hd : d < 6) (hX : ∀ x ∈ X, Ok1 x) (hl : X.length ≤ 100) (hw : Sc.Way (X ++ tail d) 0 X.length lh ls) : Text (X ++ tail d) X lh ls := by
  obtain ⟨t1, t2, t3⟩ := tail_ok d hd
  have hok : ∀ x, x ∈ X ++ tail d → Ok1 x := fun x hx => by
    rcases List.mem_append.1 hx with h | h
    · exact hX x h
    · exact t2 x h
  have hasc : ∀ i, i < (X ++ tail d).length → Ok1 (S (X ++ tail d) i) := fun i hi => all_S hok i hi
  refine ⟨by rw [List.length_append]; omega, fun x hx => by have := hok x hx; unfold Ok1 at this; omega, hasc, fun i => ?_, hw, hl, ?_⟩
  · by_cases hi : i < (X ++ tail d).length
    · have := hasc i hi
      unfold Ok1 at this
      unfold cw
      rw [if_pos (by omega)]
    · rw [S_out (by omega)]
      rfl
  · have := S_right X (tail d) 0
    rw [Nat.add_zero] at this
    rw [Nat.zero_add, this]
    exact t3
theorem mem_all {P : Int → Prop} {l : List Int} (h : ∀ i, i < l.length → P (S l i)) : True := trivial
/-- A verbatim tag. -/
theorem verb (sl : List Int) (h8 : sl.length ≤ 8) (hal : ∀ x ∈ sl, Al.al x = true) (d : Nat) (hd : d < 6) : Text ([33, 60, 116, 97, 103, 58] ++ sl ++ [62] ++ tail d) ([33, 60, 116, 97, 103, 58] ++ sl ++ [62]) [] ([116, 97, 103, 58] ++ sl) := by
  have e : [33, 60, 116, 97, 103, 58] ++ sl ++ [62] = [33, 60] ++ (([116, 97, 103, 58] ++ sl) ++ [62]) := by simp
  obtain ⟨Y, hY⟩ : ∃ Y : List Int, [116, 97, 103, 58] ++ sl = Y := ⟨_, rfl⟩
  have hYl : Y.length = 4 + sl.length := by rw [← hY]; simp; omega
  have hYa : ∀ x ∈ Y, Al.al x = true ∨ x = 58 := fun x hx => by
    rw [← hY] at hx
    simp only [List.mem_append, List.mem_cons, List.not_mem_nil, or_false] at hx
    rcases hx with (rfl | rfl | rfl | rfl) | h
    · exact .inl rfl
    · exact .inl rfl
    · exact .inl rfl
    · exact .inr rfl
    · exact .inl (hal x h)
  have hl : ([33, 60, 116, 97, 103, 58] ++ sl ++ [62]).length = 3 + Y.length := by rw [hYl]; simp; omega
  rw [hY] at e ⊢
  refine text_of _ _ _ d hd (fun x hx => ?_) (by rw [hl]; omega) ?_
  · rw [e] at hx
    simp only [List.mem_append, List.mem_cons, List.not_mem_nil, or_false] at hx
    rcases hx with (rfl | rfl) | h | rfl
    · unfold Ok1; omega
    · unfold Ok1; omega
    · rcases hYa x h with h | rfl
      · exact (al_ok h).1
      · unfold Ok1; omega
    · unfold Ok1; omega
  · rw [hl, e]
    have hT : [33, 60] ++ (Y ++ [62]) ++ tail d = [33, 60] ++ (Y ++ ([62] ++ tail d)) := by simp
    rw [hT]
    have g1 : ∀ i, i < Y.length → S ([33, 60] ++ (Y ++ ([62] ++ tail d))) (2 + i) = S Y i := fun i hi => S_mid [33, 60] Y ([62] ++ tail d) i hi
    have g2 : S ([33, 60] ++ (Y ++ ([62] ++ tail d))) (2 + Y.length) = 62 := by
      have := S_at ([33, 60] ++ Y) (tail d) 62
      rw [List.length_append] at this
      have e2 : ([33, 60] ++ Y) ++ (62 :: tail d) = [33, 60] ++ (Y ++ ([62] ++ tail d)) := by simp
      rw [e2] at this
      exact this
    have hm := map_S _ Y 2 g1
    have hway := Sc.Way.verb (T := [33, 60] ++ (Y ++ ([62] ++ tail d))) (c := 0) Y.length rfl (by omega) (by omega) (fun i hi => by
      have e3 : 0 + 1 + 1 + i = 2 + i := by omega
      rw [e3, g1 i hi]
      exact all_S (P := fun x => Al.al x = true ∨ x = 58) hYa i hi) (by
      have e3 : 0 + 1 + 1 + Y.length = 2 + Y.length := by omega
      rw [e3]
      exact g2)
    have e4 : ((List.range Y.length).map fun j => S ([33, 60] ++ (Y ++ ([62] ++ tail d))) (0 + 1 + 1 + j)) = Y := hm
    rw [e4] at hway
    exact hway
/-- A tag with a handle. -/
theorem hand (hl sl : List Int) (m8 : hl.length ≤ 8) (hah : ∀ x ∈ hl, Al.al x = true) (h1 : 1 ≤ sl.length) (h8 : sl.length ≤ 8) (hal : ∀ x ∈ sl, Al.al x = true) (d : Nat) (hd : d < 6) : Text ([33] ++ hl ++ [33] ++ sl ++ tail d) ([33] ++ hl ++ [33] ++ sl) ([33] ++ hl ++ [33]) sl := by
  have hlen : ([33] ++ hl ++ [33] ++ sl).length = 2 + hl.length + sl.length := by simp; omega
  refine text_of _ _ _ d hd (fun x hx => ?_) (by rw [hlen]; omega) ?_
  · simp only [List.mem_append, List.mem_cons, List.not_mem_nil, or_false] at hx
    rcases hx with ((rfl | h) | rfl) | h
    · unfold Ok1; omega
    · exact (al_ok (hah x h)).1
    · unfold Ok1; omega
    · exact (al_ok (hal x h)).1
  · rw [hlen]
    obtain ⟨T, hT⟩ : ∃ T, [33] ++ hl ++ [33] ++ sl ++ tail d = T := ⟨_, rfl⟩
    have t1 : T = [33] ++ (hl ++ ([33] ++ sl ++ tail d)) := by rw [← hT]; simp
    have t2 : T = ([33] ++ hl) ++ (33 :: (sl ++ tail d)) := by rw [← hT]; simp
    have t3 : T = ([33] ++ hl ++ [33]) ++ (sl ++ tail d) := by rw [← hT]; simp
    have g1 : ∀ i, i < hl.length → S T (0 + (1 + i)) = S hl i := fun i hi => by
      rw [t1, Nat.zero_add]
      exact S_mid [33] hl _ i hi
    have g2 : S T (0 + (1 + hl.length)) = 33 := by
      have := S_at ([33] ++ hl) (sl ++ tail d) 33
      rw [List.length_append] at this
      rw [t2, Nat.zero_add]
      exact this
    have g3 : ∀ i, i < sl.length → S T (0 + (2 + hl.length) + i) = S sl i := fun i hi => by
      have := S_mid ([33] ++ hl ++ [33]) sl (tail d) i hi
      have e : ([33] ++ hl ++ [33]).length = 0 + (2 + hl.length) := by simp; omega
      rw [e] at this
      rw [t3]
      exact this
    have g4 : ∀ i, i < ([33] ++ hl ++ [33]).length → S T (0 + i) = S ([33] ++ hl ++ [33]) i := fun i hi => by
      rw [t3, Nat.zero_add]
      exact S_left _ _ i hi
    have g0 : S T 0 = 33 := by rw [t1]; rfl
    rw [hT]
    have hway := Sc.Way.hand (T := T) (c := 0) hl.length sl.length (by
      by_cases hm : 0 < hl.length
      · have := g1 0 hm
        rw [show (0 + 1 : Nat) = 0 + (1 + 0) by omega, this]
        exact (al_ok (all_S (P := fun x => Al.al x = true) hah 0 hm)).2
      · have e : hl.length = 0 := by omega
        rw [e] at g2
        rw [show (0 + 1 : Nat) = 0 + (1 + 0) by omega, g2]
        omega) g0 (fun i hi => by rw [g1 i hi]; exact all_S (P := fun x => Al.al x = true) hah i hi) m8 g2 h1 h8 (fun i hi => by rw [g3 i hi]; exact all_S (P := fun x => Al.al x = true) hal i hi)
    have e1 := map_S T ([33] ++ hl ++ [33]) 0 g4
    have e0 : ([33] ++ hl ++ [33]).length = 2 + hl.length := by simp; omega
    rw [e0] at e1
    have e2 := map_S T sl (0 + (2 + hl.length)) g3
    rw [e1, e2] at hway
    exact hway
/-- A tag behind the sign alone. -/
theorem bare (sl : List Int) (h1 : 1 ≤ sl.length) (h8 : sl.length ≤ 8) (hal : ∀ x ∈ sl, Al.al x = true) (d : Nat) (hd : d < 6) : Text ([33] ++ sl ++ tail d) ([33] ++ sl) [33] sl := by
  have hlen : ([33] ++ sl).length = 1 + sl.length := by simp; omega
  refine text_of _ _ _ d hd (fun x hx => ?_) (by rw [hlen]; omega) ?_
  · simp only [List.mem_append, List.mem_cons, List.not_mem_nil, or_false] at hx
    rcases hx with rfl | h
    · unfold Ok1; omega
    · exact (al_ok (hal x h)).1
  · rw [hlen]
    obtain ⟨T, hT⟩ : ∃ T, [33] ++ sl ++ tail d = T := ⟨_, rfl⟩
    have t1 : T = [33] ++ (sl ++ tail d) := by rw [← hT]; simp
    have g1 : ∀ i, i < sl.length → S T (0 + (1 + i)) = S sl i := fun i hi => by
      rw [t1, Nat.zero_add]
      exact S_mid [33] sl _ i hi
    have g0 : S T 0 = 33 := by rw [t1]; rfl
    rw [hT]
    have hway := Sc.Way.bare (T := T) (c := 0) sl.length (by
      have := g1 0 h1
      rw [show (0 + 1 : Nat) = 0 + (1 + 0) by omega, this]
      exact (al_ok (all_S (P := fun x => Al.al x = true) hal 0 h1)).2) g0 (fun i hi => by rw [g1 i hi]; exact all_S (P := fun x => Al.al x = true) hal i hi) h1 h8
    have e2 : ((List.range sl.length).map fun j => S T (0 + (1 + j))) = sl := by
      have := map_S T sl 1 (fun i hi => by have := g1 i hi; rw [Nat.zero_add] at this; exact this)
      simp only [Nat.zero_add]
      exact this
    rw [e2] at hway
    exact hway
/-- The sign alone. -/
theorem sign (d : Nat) (hd : d < 6) : Text ([33] ++ tail d) [33] [] [33] := by
  refine text_of _ _ _ d hd (fun x hx => ?_) (by simp) ?_
  · simp at hx
    subst hx
    unfold Ok1
    omega
  · refine Sc.Way.sign ?_ rfl
    have := S_right [33] (tail d) 0
    rw [show (0 + 1 : Nat) = ([33] : List Int).length + 0 from rfl, this]
    have := (tail_ok d hd).2.2
    omega
theorem str0 : ({ data := #[] } : ByteArray) = strOfNums [] := rfl
theorem str33 : ({ data := #[33] } : ByteArray) = strOfNums [33] := rfl
theorem str62 : ({ data := #[62] } : ByteArray) = strOfNums [62] := rfl
theorem str3333 : ({ data := #[33, 33] } : ByteArray) = strOfNums [33, 33] := rfl
theorem strtag : ({ data := #[116, 97, 103, 58] } : ByteArray) = strOfNums [116, 97, 103, 58] := rfl
theorem strvtag : ({ data := #[33, 60, 116, 97, 103, 58] } : ByteArray) = strOfNums [33, 60, 116, 97, 103, 58] := rfl
set_option maxHeartbeats 8000000 in
set_option maxRecDepth 100000 in
theorem law_0 (h s : ByteArray) (f d : Nat) (hf : f < 256) (hd : d < 256) (hm : f % 5 = 0) (hh : h.size ≤ 2147483647) (hs : s.size ≤ 2147483647) (w : World) (E : Value) (hE : w.cell? ⟨2, 0, none⟩ = some E) (hEof : IsEof E) :
    Calls Tryd.prog 6 #[.string h, .string s, .int .u8 f, .int .u8 d] w fun e w' => e = .returned (.bool true) ∧ Below w.heap.size w w' := by
  have hg : 2 < w.heap.size := World.block_lt_of_cell? w ⟨2, 0, none⟩ hE
  have q1 : Int.tmod (d : Int) 6 = ((d % 6 : Nat) : Int) := by rw [Int.tmod_eq_emod_of_nonneg (by omega)]; omega
  have q2 : Int.tmod (f : Int) 5 = 0 := by rw [Int.tmod_eq_emod_of_nonneg (by omega)]; omega
  obtain ⟨t, ht, ht3⟩ : ∃ t, d % 6 = t ∧ t < 6 := ⟨_, rfl, by omega⟩
  rw [ht] at q1
  obtain ⟨hl, hnm, hn1, hn8, hal⟩ := An.name_list h
  obtain ⟨sl, snm, sn1, sn8, sal⟩ := An.name_list s
  have fnd := fun W => Nd.nd_any h W hh
  have fns := fun W => Nd.nd_any s W hs
  rw [hnm] at fnd
  rw [snm] at fns
  have zH : (strOfNums hl).size = hl.length := str_size hl
  have zS : (strOfNums sl).size = sl.length := str_size sl
  have zT : (strOfNums (tail t)).size ≤ 2 := by rw [str_size]; exact (tail_ok t ht3).1
  obtain ⟨sH, HH⟩ : ∃ sH, Hid (strOfNums hl = sH) := ⟨_, rfl⟩
  obtain ⟨sS, HS⟩ : ∃ sS, Hid (strOfNums sl = sS) := ⟨_, rfl⟩
  obtain ⟨sT, HT⟩ : ∃ sT, Hid (strOfNums (tail t) = sT) := ⟨_, rfl⟩
  rw [HH.out] at fnd zH
  rw [HS.out] at fns zS
  rw [HT.out] at zT
  obtain ⟨n, hn⟩ : ∃ n, hl.length = n := ⟨_, rfl⟩
  obtain ⟨m, hmm⟩ : ∃ m, sl.length = m := ⟨_, rfl⟩
  rw [hn] at zH hn1 hn8
  rw [hmm] at zS sn1 sn8
  have HNN := Lib.hid hn
  have HMM := Lib.hid hmm
  have HE := Lib.hid hE
  have HEE := Lib.hid hEof
  have HAL := Lib.hid hal
  have SAL := Lib.hid sal
  have FND := Lib.hid fnd
  have FNS := Lib.hid fns
  have h0 : decide (2147483647 < (h.size : Int)) = false := by simp; omega
  have h0' : decide (2147483647 < h.size) = false := by simp; omega
  have h1 : decide (2147483647 < (s.size : Int)) = false := by simp; omega
  have h1' : decide (2147483647 < s.size) = false := by simp; omega
  clear hE hEof ht fnd fns hnm snm hn hmm hal sal hm
  go_enter Tryd.func6, Tryd.ntmps6
  go_wp2_with fail
  refine (FND.out w).mono ?_
  rintro e w0 ⟨rfl, hb0⟩
  have hs0 := hb0.size
  have HB0 := Lib.hid hb0
  clear hb0
  go_wp2_with fail
  refine (FNS.out w0).mono ?_
  rintro e w1 ⟨rfl, hb1⟩
  have hs1 := hb1.size
  have HB1 := Lib.hid (HB0.out.trans (hb1.mono hs0))
  clear hb1
  go_upto_region 5 with fail
  obtain ⟨wa, HWA⟩ : ∃ wa : World, Hid (w1.alloc (.cells #[.string ⟨#[]⟩, .string ⟨#[32]⟩, .string ⟨#[9]⟩, .string ⟨#[10]⟩, .string ⟨#[13, 10]⟩, .string ⟨#[32, 120]⟩] 9) = wa) := ⟨_, rfl⟩
  have hba : Below w1.heap.size w1 wa := by rw [← HWA.out]; exact (Below.refl _ _).alloc (Nat.le_refl _) _
  have hta : wa.cell? ⟨w1.heap.size, t, none⟩ = some (.string sT) := by
    rw [← HWA.out, ← HT.out]
    have : t = 0 ∨ t = 1 ∨ t = 2 ∨ t = 3 ∨ t = 4 ∨ t = 5 := by omega
    rcases this with rfl | rfl | rfl | rfl | rfl | rfl <;> simp [tail] <;> rfl
  have hsa : wa.heap.size = w1.heap.size + 1 := by rw [← HWA.out]; simp
  rw [HWA.out]
  have HBA := Lib.hid (HB1.out.trans (hba.mono (by omega)))
  clear hba HB1 HWA
  have b1 : decide ((t : Int) < 6) = true := by simp; omega
  have t0 : (0 : Int) ≤ (t : Int) := by omega
  have t4 : (t : Int) < 6 := by omega
  go_upto_region 16 with fail
  obtain ⟨sX, HSX⟩ : ∃ sX : ByteArray, Hid ({ data := #[33, 60, 116, 97, 103, 58] } ++ sS ++ { data := #[62] } = sX) := ⟨_, rfl⟩
  have tx := verb sl (by rw [HMM.out]; exact sn8) SAL.out t ht3
  have hXs : strOfNums ([33, 60, 116, 97, 103, 58] ++ sl ++ [62]) = sX := by rw [← HSX.out]; rw [← HS.out, strvtag, str62, str_append, str_append]
  have zX : sX.size = ([33, 60, 116, 97, 103, 58] ++ sl ++ [62]).length := by rw [← hXs, str_size]
  have hP : sX ++ sT = strOfNums (([33, 60, 116, 97, 103, 58] ++ sl ++ [62]) ++ tail t) := by rw [← HT.out, ← hXs, str_append]
  obtain ⟨T, nn, HTX, HTT, zN, hn100⟩ : ∃ (T : List Int) (nn : Nat), Hid (Text T ([33, 60, 116, 97, 103, 58] ++ sl ++ [62]) ([]) ([116, 97, 103, 58] ++ sl)) ∧ Hid (strOfNums T = sX ++ sT) ∧ ([33, 60, 116, 97, 103, 58] ++ sl ++ [62]).length = nn ∧ nn ≤ 100 := ⟨_, _, Lib.hid tx, Lib.hid hP.symm, rfl, tx.le⟩
  rw [zN] at zX
  rw [HSX.out]
  clear tx hP hXs
  obtain ⟨cc, w4, hrun, hcap, hb4, hin4, hs4⟩ := conv_str T HTX.out.range wa
  rw [HTT.out] at hrun
  have hbw4 : Below w.heap.size w w4 := HBA.out.trans (hb4.mono (by omega))
  have hE4 : w4.cell? ⟨2, 0, none⟩ = some E := by rw [hbw4.cell (p := ⟨2, 0, none⟩) hg]; exact HE.out
  have hv := tag_ok (some ⟨wa.heap.size, 0, none⟩) T cc _ _ _ E w4 hE4 HEE.out hin4 HTX.out.asc (by have := HTX.out.len; omega) hcap HTX.out.one HTX.out.way HTX.out.le HTX.out.fin
  rw [zN, show ((0 + nn : Nat) : Int) = (nn : Int) by omega] at hv
  simp only [full, nine] at hv
  rw [hsa] at hv
  rw [show strOfNums ([] : List Int) = { data := #[] } from rfl, show strOfNums ([116, 97, 103, 58] ++ sl) = { data := #[116, 97, 103, 58] } ++ sS by rw [← HS.out, strtag, str_append]] at hv
  have HV := Lib.hid hv
  have HBW4 := Lib.hid hbw4
  clear hb4 hin4 hE4 hv hbw4 zN
  go_wp2_with fail
  refine HV.out.mono ?_
  rintro e w5 ⟨rfl, hb5⟩
  have hs5 := hb5.size
  have HB5 := Lib.hid hb5
  clear hb5 hrun
  go_wp2_with fail
  go_ret
  have hbw5 := HBW4.out.trans (HB5.out.mono (by omega))
  have hlw := hbw5.size
  exact ⟨rfl, (hbw5.alloc hlw _).alloc (by rw [World.size_alloc]; omega) _⟩
set_option maxHeartbeats 8000000 in
set_option maxRecDepth 100000 in
theorem law_1 (h s : ByteArray) (f d : Nat) (hf : f < 256) (hd : d < 256) (hm : f % 5 = 1) (hh : h.size ≤ 2147483647) (hs : s.size ≤ 2147483647) (w : World) (E : Value) (hE : w.cell? ⟨2, 0, none⟩ = some E) (hEof : IsEof E) :
    Calls Tryd.prog 6 #[.string h, .string s, .int .u8 f, .int .u8 d] w fun e w' => e = .returned (.bool true) ∧ Below w.heap.size w w' := by
  have hg : 2 < w.heap.size := World.block_lt_of_cell? w ⟨2, 0, none⟩ hE
  have q1 : Int.tmod (d : Int) 6 = ((d % 6 : Nat) : Int) := by rw [Int.tmod_eq_emod_of_nonneg (by omega)]; omega
  have q2 : Int.tmod (f : Int) 5 = 1 := by rw [Int.tmod_eq_emod_of_nonneg (by omega)]; omega
  obtain ⟨t, ht, ht3⟩ : ∃ t, d % 6 = t ∧ t < 6 := ⟨_, rfl, by omega⟩
  rw [ht] at q1
  obtain ⟨hl, hnm, hn1, hn8, hal⟩ := An.name_list h
  obtain ⟨sl, snm, sn1, sn8, sal⟩ := An.name_list s
  have fnd := fun W => Nd.nd_any h W hh
  have fns := fun W => Nd.nd_any s W hs
  rw [hnm] at fnd
  rw [snm] at fns
  have zH : (strOfNums hl).size = hl.length := str_size hl
  have zS : (strOfNums sl).size = sl.length := str_size sl
  have zT : (strOfNums (tail t)).size ≤ 2 := by rw [str_size]; exact (tail_ok t ht3).1
  obtain ⟨sH, HH⟩ : ∃ sH, Hid (strOfNums hl = sH) := ⟨_, rfl⟩
  obtain ⟨sS, HS⟩ : ∃ sS, Hid (strOfNums sl = sS) := ⟨_, rfl⟩
  obtain ⟨sT, HT⟩ : ∃ sT, Hid (strOfNums (tail t) = sT) := ⟨_, rfl⟩
  rw [HH.out] at fnd zH
  rw [HS.out] at fns zS
  rw [HT.out] at zT
  obtain ⟨n, hn⟩ : ∃ n, hl.length = n := ⟨_, rfl⟩
  obtain ⟨m, hmm⟩ : ∃ m, sl.length = m := ⟨_, rfl⟩
  rw [hn] at zH hn1 hn8
  rw [hmm] at zS sn1 sn8
  have HNN := Lib.hid hn
  have HMM := Lib.hid hmm
  have HE := Lib.hid hE
  have HEE := Lib.hid hEof
  have HAL := Lib.hid hal
  have SAL := Lib.hid sal
  have FND := Lib.hid fnd
  have FNS := Lib.hid fns
  have h0 : decide (2147483647 < (h.size : Int)) = false := by simp; omega
  have h0' : decide (2147483647 < h.size) = false := by simp; omega
  have h1 : decide (2147483647 < (s.size : Int)) = false := by simp; omega
  have h1' : decide (2147483647 < s.size) = false := by simp; omega
  clear hE hEof ht fnd fns hnm snm hn hmm hal sal hm
  go_enter Tryd.func6, Tryd.ntmps6
  go_wp2_with fail
  refine (FND.out w).mono ?_
  rintro e w0 ⟨rfl, hb0⟩
  have hs0 := hb0.size
  have HB0 := Lib.hid hb0
  clear hb0
  go_wp2_with fail
  refine (FNS.out w0).mono ?_
  rintro e w1 ⟨rfl, hb1⟩
  have hs1 := hb1.size
  have HB1 := Lib.hid (HB0.out.trans (hb1.mono hs0))
  clear hb1
  go_upto_region 5 with fail
  obtain ⟨wa, HWA⟩ : ∃ wa : World, Hid (w1.alloc (.cells #[.string ⟨#[]⟩, .string ⟨#[32]⟩, .string ⟨#[9]⟩, .string ⟨#[10]⟩, .string ⟨#[13, 10]⟩, .string ⟨#[32, 120]⟩] 9) = wa) := ⟨_, rfl⟩
  have hba : Below w1.heap.size w1 wa := by rw [← HWA.out]; exact (Below.refl _ _).alloc (Nat.le_refl _) _
  have hta : wa.cell? ⟨w1.heap.size, t, none⟩ = some (.string sT) := by
    rw [← HWA.out, ← HT.out]
    have : t = 0 ∨ t = 1 ∨ t = 2 ∨ t = 3 ∨ t = 4 ∨ t = 5 := by omega
    rcases this with rfl | rfl | rfl | rfl | rfl | rfl <;> simp [tail] <;> rfl
  have hsa : wa.heap.size = w1.heap.size + 1 := by rw [← HWA.out]; simp
  rw [HWA.out]
  have HBA := Lib.hid (HB1.out.trans (hba.mono (by omega)))
  clear hba HB1 HWA
  have b1 : decide ((t : Int) < 6) = true := by simp; omega
  have t0 : (0 : Int) ≤ (t : Int) := by omega
  have t4 : (t : Int) < 6 := by omega
  go_upto_region 16 with fail
  obtain ⟨sX, HSX⟩ : ∃ sX : ByteArray, Hid ({ data := #[33] } ++ sH ++ { data := #[33] } ++ sS = sX) := ⟨_, rfl⟩
  have tx := hand hl sl (by rw [HNN.out]; exact hn8) HAL.out (by rw [HMM.out]; exact sn1) (by rw [HMM.out]; exact sn8) SAL.out t ht3
  have hXs : strOfNums ([33] ++ hl ++ [33] ++ sl) = sX := by rw [← HSX.out]; rw [← HS.out, ← HH.out, str33, str_append, str_append, str_append]
  have zX : sX.size = ([33] ++ hl ++ [33] ++ sl).length := by rw [← hXs, str_size]
  have hP : sX ++ sT = strOfNums (([33] ++ hl ++ [33] ++ sl) ++ tail t) := by rw [← HT.out, ← hXs, str_append]
  obtain ⟨T, nn, HTX, HTT, zN, hn100⟩ : ∃ (T : List Int) (nn : Nat), Hid (Text T ([33] ++ hl ++ [33] ++ sl) ([33] ++ hl ++ [33]) (sl)) ∧ Hid (strOfNums T = sX ++ sT) ∧ ([33] ++ hl ++ [33] ++ sl).length = nn ∧ nn ≤ 100 := ⟨_, _, Lib.hid tx, Lib.hid hP.symm, rfl, tx.le⟩
  rw [zN] at zX
  rw [HSX.out]
  clear tx hP hXs
  obtain ⟨cc, w4, hrun, hcap, hb4, hin4, hs4⟩ := conv_str T HTX.out.range wa
  rw [HTT.out] at hrun
  have hbw4 : Below w.heap.size w w4 := HBA.out.trans (hb4.mono (by omega))
  have hE4 : w4.cell? ⟨2, 0, none⟩ = some E := by rw [hbw4.cell (p := ⟨2, 0, none⟩) hg]; exact HE.out
  have hv := tag_ok (some ⟨wa.heap.size, 0, none⟩) T cc _ _ _ E w4 hE4 HEE.out hin4 HTX.out.asc (by have := HTX.out.len; omega) hcap HTX.out.one HTX.out.way HTX.out.le HTX.out.fin
  rw [zN, show ((0 + nn : Nat) : Int) = (nn : Int) by omega] at hv
  simp only [full, nine] at hv
  rw [hsa] at hv
  rw [show strOfNums ([33] ++ hl ++ [33]) = { data := #[33] } ++ sH ++ { data := #[33] } by rw [← HH.out, str33, str_append, str_append], HS.out] at hv
  have HV := Lib.hid hv
  have HBW4 := Lib.hid hbw4
  clear hb4 hin4 hE4 hv hbw4 zN
  go_wp2_with fail
  refine HV.out.mono ?_
  rintro e w5 ⟨rfl, hb5⟩
  have hs5 := hb5.size
  have HB5 := Lib.hid hb5
  clear hb5 hrun
  go_wp2_with fail
  go_ret
  have hbw5 := HBW4.out.trans (HB5.out.mono (by omega))
  have hlw := hbw5.size
  exact ⟨rfl, (hbw5.alloc hlw _).alloc (by rw [World.size_alloc]; omega) _⟩
set_option maxHeartbeats 8000000 in
set_option maxRecDepth 100000 in
theorem law_2 (h s : ByteArray) (f d : Nat) (hf : f < 256) (hd : d < 256) (hm : f % 5 = 2) (hh : h.size ≤ 2147483647) (hs : s.size ≤ 2147483647) (w : World) (E : Value) (hE : w.cell? ⟨2, 0, none⟩ = some E) (hEof : IsEof E) :
    Calls Tryd.prog 6 #[.string h, .string s, .int .u8 f, .int .u8 d] w fun e w' => e = .returned (.bool true) ∧ Below w.heap.size w w' := by
  have hg : 2 < w.heap.size := World.block_lt_of_cell? w ⟨2, 0, none⟩ hE
  have q1 : Int.tmod (d : Int) 6 = ((d % 6 : Nat) : Int) := by rw [Int.tmod_eq_emod_of_nonneg (by omega)]; omega
  have q2 : Int.tmod (f : Int) 5 = 2 := by rw [Int.tmod_eq_emod_of_nonneg (by omega)]; omega
  obtain ⟨t, ht, ht3⟩ : ∃ t, d % 6 = t ∧ t < 6 := ⟨_, rfl, by omega⟩
  rw [ht] at q1
  obtain ⟨hl, hnm, hn1, hn8, hal⟩ := An.name_list h
  obtain ⟨sl, snm, sn1, sn8, sal⟩ := An.name_list s
  have fnd := fun W => Nd.nd_any h W hh
  have fns := fun W => Nd.nd_any s W hs
  rw [hnm] at fnd
  rw [snm] at fns
  have zH : (strOfNums hl).size = hl.length := str_size hl
  have zS : (strOfNums sl).size = sl.length := str_size sl
  have zT : (strOfNums (tail t)).size ≤ 2 := by rw [str_size]; exact (tail_ok t ht3).1
  obtain ⟨sH, HH⟩ : ∃ sH, Hid (strOfNums hl = sH) := ⟨_, rfl⟩
  obtain ⟨sS, HS⟩ : ∃ sS, Hid (strOfNums sl = sS) := ⟨_, rfl⟩
  obtain ⟨sT, HT⟩ : ∃ sT, Hid (strOfNums (tail t) = sT) := ⟨_, rfl⟩
  rw [HH.out] at fnd zH
  rw [HS.out] at fns zS
  rw [HT.out] at zT
  obtain ⟨n, hn⟩ : ∃ n, hl.length = n := ⟨_, rfl⟩
  obtain ⟨m, hmm⟩ : ∃ m, sl.length = m := ⟨_, rfl⟩
  rw [hn] at zH hn1 hn8
  rw [hmm] at zS sn1 sn8
  have HNN := Lib.hid hn
  have HMM := Lib.hid hmm
  have HE := Lib.hid hE
  have HEE := Lib.hid hEof
  have HAL := Lib.hid hal
  have SAL := Lib.hid sal
  have FND := Lib.hid fnd
  have FNS := Lib.hid fns
  have h0 : decide (2147483647 < (h.size : Int)) = false := by simp; omega
  have h0' : decide (2147483647 < h.size) = false := by simp; omega
  have h1 : decide (2147483647 < (s.size : Int)) = false := by simp; omega
  have h1' : decide (2147483647 < s.size) = false := by simp; omega
  clear hE hEof ht fnd fns hnm snm hn hmm hal sal hm
  go_enter Tryd.func6, Tryd.ntmps6
  go_wp2_with fail
  refine (FND.out w).mono ?_
  rintro e w0 ⟨rfl, hb0⟩
  have hs0 := hb0.size
  have HB0 := Lib.hid hb0
  clear hb0
  go_wp2_with fail
  refine (FNS.out w0).mono ?_
  rintro e w1 ⟨rfl, hb1⟩
  have hs1 := hb1.size
  have HB1 := Lib.hid (HB0.out.trans (hb1.mono hs0))
  clear hb1
  go_upto_region 5 with fail
  obtain ⟨wa, HWA⟩ : ∃ wa : World, Hid (w1.alloc (.cells #[.string ⟨#[]⟩, .string ⟨#[32]⟩, .string ⟨#[9]⟩, .string ⟨#[10]⟩, .string ⟨#[13, 10]⟩, .string ⟨#[32, 120]⟩] 9) = wa) := ⟨_, rfl⟩
  have hba : Below w1.heap.size w1 wa := by rw [← HWA.out]; exact (Below.refl _ _).alloc (Nat.le_refl _) _
  have hta : wa.cell? ⟨w1.heap.size, t, none⟩ = some (.string sT) := by
    rw [← HWA.out, ← HT.out]
    have : t = 0 ∨ t = 1 ∨ t = 2 ∨ t = 3 ∨ t = 4 ∨ t = 5 := by omega
    rcases this with rfl | rfl | rfl | rfl | rfl | rfl <;> simp [tail] <;> rfl
  have hsa : wa.heap.size = w1.heap.size + 1 := by rw [← HWA.out]; simp
  rw [HWA.out]
  have HBA := Lib.hid (HB1.out.trans (hba.mono (by omega)))
  clear hba HB1 HWA
  have b1 : decide ((t : Int) < 6) = true := by simp; omega
  have t0 : (0 : Int) ≤ (t : Int) := by omega
  have t4 : (t : Int) < 6 := by omega
  go_upto_region 16 with fail
  obtain ⟨sX, HSX⟩ : ∃ sX : ByteArray, Hid ({ data := #[33, 33] } ++ sS = sX) := ⟨_, rfl⟩
  have tx := hand [] sl (by simp) (fun x hx => by cases hx) (by rw [HMM.out]; exact sn1) (by rw [HMM.out]; exact sn8) SAL.out t ht3
  have hXs : strOfNums ([33] ++ [] ++ [33] ++ sl) = sX := by rw [← HSX.out]; rw [← HS.out, str3333, str_append]; rfl
  have zX : sX.size = ([33] ++ [] ++ [33] ++ sl).length := by rw [← hXs, str_size]
  have hP : sX ++ sT = strOfNums (([33] ++ [] ++ [33] ++ sl) ++ tail t) := by rw [← HT.out, ← hXs, str_append]
  obtain ⟨T, nn, HTX, HTT, zN, hn100⟩ : ∃ (T : List Int) (nn : Nat), Hid (Text T ([33] ++ [] ++ [33] ++ sl) ([33] ++ [] ++ [33]) (sl)) ∧ Hid (strOfNums T = sX ++ sT) ∧ ([33] ++ [] ++ [33] ++ sl).length = nn ∧ nn ≤ 100 := ⟨_, _, Lib.hid tx, Lib.hid hP.symm, rfl, tx.le⟩
  rw [zN] at zX
  rw [HSX.out]
  clear tx hP hXs
  obtain ⟨cc, w4, hrun, hcap, hb4, hin4, hs4⟩ := conv_str T HTX.out.range wa
  rw [HTT.out] at hrun
  have hbw4 : Below w.heap.size w w4 := HBA.out.trans (hb4.mono (by omega))
  have hE4 : w4.cell? ⟨2, 0, none⟩ = some E := by rw [hbw4.cell (p := ⟨2, 0, none⟩) hg]; exact HE.out
  have hv := tag_ok (some ⟨wa.heap.size, 0, none⟩) T cc _ _ _ E w4 hE4 HEE.out hin4 HTX.out.asc (by have := HTX.out.len; omega) hcap HTX.out.one HTX.out.way HTX.out.le HTX.out.fin
  rw [zN, show ((0 + nn : Nat) : Int) = (nn : Int) by omega] at hv
  simp only [full, nine] at hv
  rw [hsa] at hv
  rw [show strOfNums ([33] ++ [] ++ [33]) = { data := #[33, 33] } from rfl, HS.out] at hv
  have HV := Lib.hid hv
  have HBW4 := Lib.hid hbw4
  clear hb4 hin4 hE4 hv hbw4 zN
  go_wp2_with fail
  refine HV.out.mono ?_
  rintro e w5 ⟨rfl, hb5⟩
  have hs5 := hb5.size
  have HB5 := Lib.hid hb5
  clear hb5 hrun
  go_wp2_with fail
  go_ret
  have hbw5 := HBW4.out.trans (HB5.out.mono (by omega))
  have hlw := hbw5.size
  exact ⟨rfl, (hbw5.alloc hlw _).alloc (by rw [World.size_alloc]; omega) _⟩
set_option maxHeartbeats 8000000 in
set_option maxRecDepth 100000 in
theorem law_3 (h s : ByteArray) (f d : Nat) (hf : f < 256) (hd : d < 256) (hm : f % 5 = 3) (hh : h.size ≤ 2147483647) (hs : s.size ≤ 2147483647) (w : World) (E : Value) (hE : w.cell? ⟨2, 0, none⟩ = some E) (hEof : IsEof E) :
    Calls Tryd.prog 6 #[.string h, .string s, .int .u8 f, .int .u8 d] w fun e w' => e = .returned (.bool true) ∧ Below w.heap.size w w' := by
  have hg : 2 < w.heap.size := World.block_lt_of_cell? w ⟨2, 0, none⟩ hE
  have q1 : Int.tmod (d : Int) 6 = ((d % 6 : Nat) : Int) := by rw [Int.tmod_eq_emod_of_nonneg (by omega)]; omega
  have q2 : Int.tmod (f : Int) 5 = 3 := by rw [Int.tmod_eq_emod_of_nonneg (by omega)]; omega
  obtain ⟨t, ht, ht3⟩ : ∃ t, d % 6 = t ∧ t < 6 := ⟨_, rfl, by omega⟩
  rw [ht] at q1
  obtain ⟨hl, hnm, hn1, hn8, hal⟩ := An.name_list h
  obtain ⟨sl, snm, sn1, sn8, sal⟩ := An.name_list s
  have fnd := fun W => Nd.nd_any h W hh
  have fns := fun W => Nd.nd_any s W hs
  rw [hnm] at fnd
  rw [snm] at fns
  have zH : (strOfNums hl).size = hl.length := str_size hl
  have zS : (strOfNums sl).size = sl.length := str_size sl
  have zT : (strOfNums (tail t)).size ≤ 2 := by rw [str_size]; exact (tail_ok t ht3).1
  obtain ⟨sH, HH⟩ : ∃ sH, Hid (strOfNums hl = sH) := ⟨_, rfl⟩
  obtain ⟨sS, HS⟩ : ∃ sS, Hid (strOfNums sl = sS) := ⟨_, rfl⟩
  obtain ⟨sT, HT⟩ : ∃ sT, Hid (strOfNums (tail t) = sT) := ⟨_, rfl⟩
  rw [HH.out] at fnd zH
  rw [HS.out] at fns zS
  rw [HT.out] at zT
  obtain ⟨n, hn⟩ : ∃ n, hl.length = n := ⟨_, rfl⟩
  obtain ⟨m, hmm⟩ : ∃ m, sl.length = m := ⟨_, rfl⟩
  rw [hn] at zH hn1 hn8
  rw [hmm] at zS sn1 sn8
  have HNN := Lib.hid hn
  have HMM := Lib.hid hmm
  have HE := Lib.hid hE
  have HEE := Lib.hid hEof
  have HAL := Lib.hid hal
  have SAL := Lib.hid sal
  have FND := Lib.hid fnd
  have FNS := Lib.hid fns
  have h0 : decide (2147483647 < (h.size : Int)) = false := by simp; omega
  have h0' : decide (2147483647 < h.size) = false := by simp; omega
  have h1 : decide (2147483647 < (s.size : Int)) = false := by simp; omega
  have h1' : decide (2147483647 < s.size) = false := by simp; omega
  clear hE hEof ht fnd fns hnm snm hn hmm hal sal hm
  go_enter Tryd.func6, Tryd.ntmps6
  go_wp2_with fail
  refine (FND.out w).mono ?_
  rintro e w0 ⟨rfl, hb0⟩
  have hs0 := hb0.size
  have HB0 := Lib.hid hb0
  clear hb0
  go_wp2_with fail
  refine (FNS.out w0).mono ?_
  rintro e w1 ⟨rfl, hb1⟩
  have hs1 := hb1.size
  have HB1 := Lib.hid (HB0.out.trans (hb1.mono hs0))
  clear hb1
  go_upto_region 5 with fail
  obtain ⟨wa, HWA⟩ : ∃ wa : World, Hid (w1.alloc (.cells #[.string ⟨#[]⟩, .string ⟨#[32]⟩, .string ⟨#[9]⟩, .string ⟨#[10]⟩, .string ⟨#[13, 10]⟩, .string ⟨#[32, 120]⟩] 9) = wa) := ⟨_, rfl⟩
  have hba : Below w1.heap.size w1 wa := by rw [← HWA.out]; exact (Below.refl _ _).alloc (Nat.le_refl _) _
  have hta : wa.cell? ⟨w1.heap.size, t, none⟩ = some (.string sT) := by
    rw [← HWA.out, ← HT.out]
    have : t = 0 ∨ t = 1 ∨ t = 2 ∨ t = 3 ∨ t = 4 ∨ t = 5 := by omega
    rcases this with rfl | rfl | rfl | rfl | rfl | rfl <;> simp [tail] <;> rfl
  have hsa : wa.heap.size = w1.heap.size + 1 := by rw [← HWA.out]; simp
  rw [HWA.out]
  have HBA := Lib.hid (HB1.out.trans (hba.mono (by omega)))
  clear hba HB1 HWA
  have b1 : decide ((t : Int) < 6) = true := by simp; omega
  have t0 : (0 : Int) ≤ (t : Int) := by omega
  have t4 : (t : Int) < 6 := by omega
  go_upto_region 16 with fail
  obtain ⟨sX, HSX⟩ : ∃ sX : ByteArray, Hid ({ data := #[33] } ++ sS = sX) := ⟨_, rfl⟩
  have tx := bare sl (by rw [HMM.out]; exact sn1) (by rw [HMM.out]; exact sn8) SAL.out t ht3
  have hXs : strOfNums ([33] ++ sl) = sX := by rw [← HSX.out]; rw [← HS.out, str33, str_append]
  have zX : sX.size = ([33] ++ sl).length := by rw [← hXs, str_size]
  have hP : sX ++ sT = strOfNums (([33] ++ sl) ++ tail t) := by rw [← HT.out, ← hXs, str_append]
  obtain ⟨T, nn, HTX, HTT, zN, hn100⟩ : ∃ (T : List Int) (nn : Nat), Hid (Text T ([33] ++ sl) ([33]) (sl)) ∧ Hid (strOfNums T = sX ++ sT) ∧ ([33] ++ sl).length = nn ∧ nn ≤ 100 := ⟨_, _, Lib.hid tx, Lib.hid hP.symm, rfl, tx.le⟩
  rw [zN] at zX
  rw [HSX.out]
  clear tx hP hXs
  obtain ⟨cc, w4, hrun, hcap, hb4, hin4, hs4⟩ := conv_str T HTX.out.range wa
  rw [HTT.out] at hrun
  have hbw4 : Below w.heap.size w w4 := HBA.out.trans (hb4.mono (by omega))
  have hE4 : w4.cell? ⟨2, 0, none⟩ = some E := by rw [hbw4.cell (p := ⟨2, 0, none⟩) hg]; exact HE.out
  have hv := tag_ok (some ⟨wa.heap.size, 0, none⟩) T cc _ _ _ E w4 hE4 HEE.out hin4 HTX.out.asc (by have := HTX.out.len; omega) hcap HTX.out.one HTX.out.way HTX.out.le HTX.out.fin
  rw [zN, show ((0 + nn : Nat) : Int) = (nn : Int) by omega] at hv
  simp only [full, nine] at hv
  rw [hsa] at hv
  rw [show strOfNums [33] = { data := #[33] } from rfl, HS.out] at hv
  have HV := Lib.hid hv
  have HBW4 := Lib.hid hbw4
  clear hb4 hin4 hE4 hv hbw4 zN
  go_wp2_with fail
  refine HV.out.mono ?_
  rintro e w5 ⟨rfl, hb5⟩
  have hs5 := hb5.size
  have HB5 := Lib.hid hb5
  clear hb5 hrun
  go_wp2_with fail
  go_ret
  have hbw5 := HBW4.out.trans (HB5.out.mono (by omega))
  have hlw := hbw5.size
  exact ⟨rfl, (hbw5.alloc hlw _).alloc (by rw [World.size_alloc]; omega) _⟩
set_option maxHeartbeats 8000000 in
set_option maxRecDepth 100000 in
theorem law_4 (h s : ByteArray) (f d : Nat) (hf : f < 256) (hd : d < 256) (hm : f % 5 = 4) (hh : h.size ≤ 2147483647) (hs : s.size ≤ 2147483647) (w : World) (E : Value) (hE : w.cell? ⟨2, 0, none⟩ = some E) (hEof : IsEof E) :
    Calls Tryd.prog 6 #[.string h, .string s, .int .u8 f, .int .u8 d] w fun e w' => e = .returned (.bool true) ∧ Below w.heap.size w w' := by
  have hg : 2 < w.heap.size := World.block_lt_of_cell? w ⟨2, 0, none⟩ hE
  have q1 : Int.tmod (d : Int) 6 = ((d % 6 : Nat) : Int) := by rw [Int.tmod_eq_emod_of_nonneg (by omega)]; omega
  have q2 : Int.tmod (f : Int) 5 = 4 := by rw [Int.tmod_eq_emod_of_nonneg (by omega)]; omega
  obtain ⟨t, ht, ht3⟩ : ∃ t, d % 6 = t ∧ t < 6 := ⟨_, rfl, by omega⟩
  rw [ht] at q1
  obtain ⟨hl, hnm, hn1, hn8, hal⟩ := An.name_list h
  obtain ⟨sl, snm, sn1, sn8, sal⟩ := An.name_list s
  have fnd := fun W => Nd.nd_any h W hh
  have fns := fun W => Nd.nd_any s W hs
  rw [hnm] at fnd
  rw [snm] at fns
  have zH : (strOfNums hl).size = hl.length := str_size hl
  have zS : (strOfNums sl).size = sl.length := str_size sl
  have zT : (strOfNums (tail t)).size ≤ 2 := by rw [str_size]; exact (tail_ok t ht3).1
  obtain ⟨sH, HH⟩ : ∃ sH, Hid (strOfNums hl = sH) := ⟨_, rfl⟩
  obtain ⟨sS, HS⟩ : ∃ sS, Hid (strOfNums sl = sS) := ⟨_, rfl⟩
  obtain ⟨sT, HT⟩ : ∃ sT, Hid (strOfNums (tail t) = sT) := ⟨_, rfl⟩
  rw [HH.out] at fnd zH
  rw [HS.out] at fns zS
  rw [HT.out] at zT
  obtain ⟨n, hn⟩ : ∃ n, hl.length = n := ⟨_, rfl⟩
  obtain ⟨m, hmm⟩ : ∃ m, sl.length = m := ⟨_, rfl⟩
  rw [hn] at zH hn1 hn8
  rw [hmm] at zS sn1 sn8
  have HNN := Lib.hid hn
  have HMM := Lib.hid hmm
  have HE := Lib.hid hE
  have HEE := Lib.hid hEof
  have HAL := Lib.hid hal
  have SAL := Lib.hid sal
  have FND := Lib.hid fnd
  have FNS := Lib.hid fns
  have h0 : decide (2147483647 < (h.size : Int)) = false := by simp; omega
  have h0' : decide (2147483647 < h.size) = false := by simp; omega
  have h1 : decide (2147483647 < (s.size : Int)) = false := by simp; omega
  have h1' : decide (2147483647 < s.size) = false := by simp; omega
  clear hE hEof ht fnd fns hnm snm hn hmm hal sal hm
  go_enter Tryd.func6, Tryd.ntmps6
  go_wp2_with fail
  refine (FND.out w).mono ?_
  rintro e w0 ⟨rfl, hb0⟩
  have hs0 := hb0.size
  have HB0 := Lib.hid hb0
  clear hb0
  go_wp2_with fail
  refine (FNS.out w0).mono ?_
  rintro e w1 ⟨rfl, hb1⟩
  have hs1 := hb1.size
  have HB1 := Lib.hid (HB0.out.trans (hb1.mono hs0))
  clear hb1
  go_upto_region 5 with fail
  obtain ⟨wa, HWA⟩ : ∃ wa : World, Hid (w1.alloc (.cells #[.string ⟨#[]⟩, .string ⟨#[32]⟩, .string ⟨#[9]⟩, .string ⟨#[10]⟩, .string ⟨#[13, 10]⟩, .string ⟨#[32, 120]⟩] 9) = wa) := ⟨_, rfl⟩
  have hba : Below w1.heap.size w1 wa := by rw [← HWA.out]; exact (Below.refl _ _).alloc (Nat.le_refl _) _
  have hta : wa.cell? ⟨w1.heap.size, t, none⟩ = some (.string sT) := by
    rw [← HWA.out, ← HT.out]
    have : t = 0 ∨ t = 1 ∨ t = 2 ∨ t = 3 ∨ t = 4 ∨ t = 5 := by omega
    rcases this with rfl | rfl | rfl | rfl | rfl | rfl <;> simp [tail] <;> rfl
  have hsa : wa.heap.size = w1.heap.size + 1 := by rw [← HWA.out]; simp
  rw [HWA.out]
  have HBA := Lib.hid (HB1.out.trans (hba.mono (by omega)))
  clear hba HB1 HWA
  have b1 : decide ((t : Int) < 6) = true := by simp; omega
  have t0 : (0 : Int) ≤ (t : Int) := by omega
  have t4 : (t : Int) < 6 := by omega
  go_upto_region 16 with fail
  obtain ⟨sX, HSX⟩ : ∃ sX : ByteArray, Hid ({ data := #[33] } = sX) := ⟨_, rfl⟩
  have tx := sign t ht3
  have hXs : strOfNums (([33] : List Int)) = sX := by rw [← HSX.out]; rw [str33]
  have zX : sX.size = (([33] : List Int)).length := by rw [← hXs, str_size]
  have hP : { data := #[33] } ++ sT = strOfNums ((([33] : List Int)) ++ tail t) := by rw [← HT.out, str33, str_append]
  obtain ⟨T, nn, HTX, HTT, zN, hn100⟩ : ∃ (T : List Int) (nn : Nat), Hid (Text T (([33] : List Int)) ([]) ([33])) ∧ Hid (strOfNums T = { data := #[33] } ++ sT) ∧ (([33] : List Int)).length = nn ∧ nn ≤ 100 := ⟨_, _, Lib.hid tx, Lib.hid hP.symm, rfl, tx.le⟩
  rw [zN] at zX
  clear tx hP hXs
  obtain ⟨cc, w4, hrun, hcap, hb4, hin4, hs4⟩ := conv_str T HTX.out.range wa
  rw [HTT.out] at hrun
  have hbw4 : Below w.heap.size w w4 := HBA.out.trans (hb4.mono (by omega))
  have hE4 : w4.cell? ⟨2, 0, none⟩ = some E := by rw [hbw4.cell (p := ⟨2, 0, none⟩) hg]; exact HE.out
  have hv := tag_ok (some ⟨wa.heap.size, 0, none⟩) T cc _ _ _ E w4 hE4 HEE.out hin4 HTX.out.asc (by have := HTX.out.len; omega) hcap HTX.out.one HTX.out.way HTX.out.le HTX.out.fin
  rw [zN, show ((0 + nn : Nat) : Int) = (nn : Int) by omega] at hv
  simp only [full, nine] at hv
  rw [hsa] at hv
  rw [show (nn : Int) = 1 by rw [← zN]; rfl, show strOfNums ([] : List Int) = { data := #[] } from rfl, show strOfNums [33] = { data := #[33] } from rfl] at hv
  have HV := Lib.hid hv
  have HBW4 := Lib.hid hbw4
  clear hb4 hin4 hE4 hv hbw4 zN
  go_wp2_with fail
  refine HV.out.mono ?_
  rintro e w5 ⟨rfl, hb5⟩
  have hs5 := hb5.size
  have HB5 := Lib.hid hb5
  clear hb5 hrun
  go_wp2_with fail
  go_ret
  have hbw5 := HBW4.out.trans (HB5.out.mono (by omega))
  have hlw := hbw5.size
  exact ⟨rfl, (hbw5.alloc hlw _).alloc (by rw [World.size_alloc]; omega) _⟩
set_option maxHeartbeats 1000000 in
theorem law_great (h s : ByteArray) (f d : Int) (hh : 2147483647 < h.size) (hm : h.size ≤ 140737488351232) (w : World) :
    Calls Tryd.prog 6 #[.string h, .string s, .int .u8 f, .int .u8 d] w fun e w' => e = .returned (.bool true) ∧ Below w.heap.size w w' := by
  have h0 : decide (2147483647 < (h.size : Int)) = true := by simp; omega
  have h0' : decide (2147483647 < h.size) = true := by simp; omega
  go_enter Tryd.func6, Tryd.ntmps6
  go_wp2_with fail
  go_ret
  exact ⟨rfl, Below.refl _ _⟩
set_option maxHeartbeats 1000000 in
theorem law_great2 (h s : ByteArray) (f d : Int) (hh : h.size ≤ 2147483647) (hs : 2147483647 < s.size) (hm : s.size ≤ 140737488351232) (w : World) :
    Calls Tryd.prog 6 #[.string h, .string s, .int .u8 f, .int .u8 d] w fun e w' => e = .returned (.bool true) ∧ Below w.heap.size w w' := by
  have h0 : decide (2147483647 < (h.size : Int)) = false := by simp; omega
  have h0' : decide (2147483647 < h.size) = false := by simp; omega
  have h1 : decide (2147483647 < (s.size : Int)) = true := by simp; omega
  have h1' : decide (2147483647 < s.size) = true := by simp; omega
  go_enter Tryd.func6, Tryd.ntmps6
  go_wp2_with fail
  go_ret
  exact ⟨rfl, Below.refl _ _⟩
theorem law_walk (a b : ByteArray) (f d : Int) (W : World) (E : Value) (hE : W.cell? ⟨2, 0, none⟩ = some E) (hEof : IsEof E) (ha : a.size ≤ 140737488351232) (hb : b.size ≤ 140737488351232) (hf : (Lit.int .u8 f).wf = true) (hd : (Lit.int .u8 d).wf = true) :
    Calls Tryd.prog 6 #[.string a, .string b, .int .u8 f, .int .u8 d] W fun e W' => e = .returned (.bool true) ∧ Below W.heap.size W W' := by
  have g : ∀ x : Int, (Lit.int .u8 x).wf = true → 0 ≤ x ∧ x < 256 := fun x hx => by
    simp [Lit.wf, IntKind.min, IntKind.max, IntKind.signed, IntKind.bits] at hx
    omega
  obtain ⟨f0, f1⟩ := g f hf
  obtain ⟨d0, d1⟩ := g d hd
  by_cases hs : a.size ≤ 2147483647
  · by_cases hs2 : b.size ≤ 2147483647
    · obtain ⟨fn, rfl⟩ : ∃ n : Nat, f = (n : Int) := ⟨f.toNat, by omega⟩
      obtain ⟨dn, rfl⟩ : ∃ n : Nat, d = (n : Int) := ⟨d.toNat, by omega⟩
      have hcase : fn % 5 = 0 ∨ fn % 5 = 1 ∨ fn % 5 = 2 ∨ fn % 5 = 3 ∨ fn % 5 = 4 := by omega
      rcases hcase with h | h | h | h | h
      · exact law_0 a b fn dn (by omega) (by omega) h hs hs2 W E hE hEof
      · exact law_1 a b fn dn (by omega) (by omega) h hs hs2 W E hE hEof
      · exact law_2 a b fn dn (by omega) (by omega) h hs hs2 W E hE hEof
      · exact law_3 a b fn dn (by omega) (by omega) h hs hs2 W E hE hEof
      · exact law_4 a b fn dn (by omega) (by omega) h hs hs2 W E hE hEof
    · exact law_great2 a b f d hs (by omega) hb W
  · exact law_great a b f d (by omega) ha W
end Go.Proofs.YtocbbekciphjgaaDoor.Tg
