/- An anchor, or an alias, is scanned at a text's beginning (impl.ScanAnchor): the walks. Printed by genAnG.py. -/
import Derived.Test.YtocbbekciphjgaaDoorAnF
import Derived.Test.YtocbbekciphjgaaDoorScG
namespace Go.Proofs.YtocbbekciphjgaaDoor.Sc
open Go.RowKit Go.Proofs.YtocbbekciphjgaaDoor.Rdp Go.Proofs.YtocbbekciphjgaaDoor.Pa
set_option linter.unusedVariables false
set_option linter.unusedSimpArgs false
theorem Held.txt {T : List Int} {lo c0 i : Nat} {v : Value} {w : World} (h : Held T lo c0 i v w) : Tx w v ((List.range i).map fun j => S T (c0 + j)) := by
  rcases h with ⟨rfl, rfl⟩ | ⟨g, G, rfl, h2, h3, h4, h5, h6, h7⟩
  · exact .inl ⟨rfl, rfl⟩
  · refine .inr ⟨g, 32, by simp, fun j hj => ?_⟩
    have hj' : j < i := by simpa using hj
    rw [Nat.zero_add, (h4.cell j).1, h6 j hj']
    simp [List.getD_eq_getElem?_getD, hj']
theorem Held.low {T : List Int} {lo lo2 c0 i : Nat} {v : Value} {w : World} (h : Held T lo c0 i v w) (hl : lo2 ≤ lo) : Held T lo2 c0 i v w := by
  rcases h with h | ⟨g, G, h1, h2, h3⟩
  · exact .inl h
  · exact .inr ⟨g, G, h1, by omega, h3⟩
set_option maxHeartbeats 8000000 in
set_option maxRecDepth 100000 in
theorem alias_ok (A : Option Addr) (T : List Int) (ci n : Nat) (x : Int) (E : Value) (w0 : World) (hE : w0.cell? ⟨2, 0, none⟩ = some E) (hEof : IsEof E) (hin : In w0 A T) (hasc : ∀ i, i < T.length → Ok1 (S T i)) (htl : T.length ≤ 2147483647) (htc : T.length ≤ ci)
    (hfirst : cw (S T 0) = 1) (hal : ∀ i, i < n → Al.al (S T (0 + 1 + i)) = true) (hn1 : 1 ≤ n) (hn2 : n ≤ 8) (hx : S T (0 + 1 + n) = x) (hend : Al.al x = false) (hx0 : 0 ≤ x) (hx1 : x < 128) (hcl : isBlankz x = true ∨ (isBlankz x = false ∧ (x = 44 ∨ x = 93 ∨ x = 125))) :
    Calls Tryd.prog 17 #[.slice A T.length ci, .bool true] w0 fun e w' => e = .returned (.tuple #[.agg (full 18 0 0 0 (0 + 1 + n : Nat) 0 (0 + 1 + n : Nat) 0 ((List.range n).map fun j => S T (0 + 1 + j)) [] [] 0 0 0).toArray, .agg (nine 0 0 0 0 0 0 0 0 0).toArray]) ∧ Below w0.heap.size w0 w' := by
  have hg : 2 < w0.heap.size := World.block_lt_of_cell? w0 ⟨2, 0, none⟩ hE
  obtain ⟨ei, HEI⟩ : ∃ x : Int, Hid (((0 + 1 + n : Nat) : Int) = x) := ⟨_, rfl⟩
  obtain ⟨l, HL0⟩ : ∃ l : List Int, Hid (((List.range n).map fun j => S T (0 + 1 + j)) = l) := ⟨_, rfl⟩
  rw [HEI.out, HL0.out]
  obtain ⟨wa, HWA⟩ : ∃ wa : World, Hid (((w0.alloc (.cells (full 0 0 0 0 0 0 0 0 [] [] [] 0 0 0).toArray 37)).alloc (.cells (nine 0 0 0 0 0 0 0 0 0).toArray 31)) = wa) := ⟨_, rfl⟩
  have n4' : Bk wa w0.heap.size 37 (full 0 0 0 0 0 0 0 0 [] [] [] 0 0 0) := by rw [← HWA.out]; exact (Bk.new _ _ _).alloc _
  have n5 : Bk wa (w0.heap.size + 1) 31 (nine 0 0 0 0 0 0 0 0 0) := by
    have := Bk.new (w0.alloc (.cells (full 0 0 0 0 0 0 0 0 [] [] [] 0 0 0).toArray 37)) (nine 0 0 0 0 0 0 0 0 0) 31
    simp only [World.size_alloc] at this
    rw [← HWA.out]
    exact this
  have hba : Below w0.heap.size w0 wa := by rw [← HWA.out]; exact ((Below.refl _ _).alloc (Nat.le_refl _) _).alloc (by simp) _
  have hsa : wa.heap.size = w0.heap.size + 2 := by rw [← HWA.out]; simp
  have hEa : wa.cell? ⟨2, 0, none⟩ = some E := by rw [hba.cell (p := ⟨2, 0, none⟩) hg]; exact hE
  have hina : In wa A T := by
    rcases hin with h | ⟨b, o, e, h1, h2⟩
    · exact .inl h
    · exact .inr ⟨b, o, e, by omega, fun i hi => by rw [hba.cell (p := ⟨b, o + i, none⟩) h1]; exact h2 i hi⟩
  have N4 := Lib.hid n4'
  have N5 := Lib.hid n5
  have HBA := Lib.hid hba
  have HEA := Lib.hid hEa
  have HINA := Lib.hid hina
  have HEE := Lib.hid hEof
  have HASC := Lib.hid hasc
  have HFI := Lib.hid hfirst
  have HAL := Lib.hid hal
  have HX := Lib.hid hx
  have HEND := Lib.hid hend
  have HCL := Lib.hid hcl
  clear hE hEof hin n4' n5 hba hEa hina hasc hfirst hal hx hend hcl
  go_enter Tryd.func17, Tryd.ntmps17
  go_upto_region 1 with fail
  rw [show (w0.alloc (.cells #[.int .i64 0, .int .i64 0, .int .i64 0, .int .i64 0, .int .i64 0, .int .i64 0, .int .i64 0, .string ⟨#[]⟩, .string ⟨#[]⟩, .string ⟨#[]⟩, .int .i64 0, .int .i64 0, .int .i64 0, .int .i64 0] 37)).alloc (.cells #[.int .i64 0, .int .i64 0, .int .i64 0, .int .i64 0, .int .i64 0, .int .i64 0, .int .i64 0, .int .i64 0, .int .i64 0] 31) = wa from HWA.out]
  go_wp2_with fail
  refine (started_any A T.length ci wa).mono ?_
  rintro e w1 ⟨p, r, q, rfl, hp, hpr, hpq, hrq, hbr, hbq, hbp, hbel⟩
  have hst := start_rdr A T ci E wa w1 p r q HEA.out HEE.out HINA.out (good_ascii HASC.out) htl htc hp hpr hpq hrq hbr hbq hbp hbel
  have hlp := hst.pb.lt
  obtain ⟨rl, rpos, ip, eof, RL, BL, stt, hlay, _⟩ := hst.ex
  have hlr : r < w1.heap.size := hlay.rb.lt
  have hlq : q < w1.heap.size := hlay.qb.lt
  clear hlay
  have hat := pStart_at (.slice A T.length ci) (.slice (some ⟨r, 0, none⟩) 0 512) (.slice (some ⟨q, 0, none⟩) 0 1536)
  obtain ⟨L, HL⟩ : ∃ L, Hid (pStart (.slice A T.length ci) (.slice (some ⟨r, 0, none⟩) 0 512) (.slice (some ⟨q, 0, none⟩) 0 1536) = L) := ⟨_, rfl⟩
  rw [HL.out] at hst hat
  have hs1 := hbel.size
  obtain ⟨t, HTN⟩ : ∃ t : Nat, Hid (w1.heap.size = t) := ⟨_, rfl⟩
  obtain ⟨w2, HW2⟩ : ∃ w2 : World, Hid (w1.alloc (.cells tok0.toArray 78) = w2) := ⟨_, rfl⟩
  have hb2 : Below w1.heap.size w1 w2 := by rw [← HW2.out]; exact (Below.refl _ _).alloc (Nat.le_refl _) _
  have hs2 : w2.heap.size = w1.heap.size + 1 := by rw [← HW2.out]; simp
  have ht2 : Bk w2 t 78 tok0 := by rw [← HW2.out, ← HTN.out]; exact Bk.new _ _ _
  have hst2 := rdr_new hst hb2
  have hft : Far ⟨r, q, A, T, ci, E⟩ p t := far_new hst (by rw [← HTN.out]; exact Nat.le_refl _)
  have hk2 : Kp [] wa w2 := (Kp.of_below hbel).trans (Kp.of_below hb2)
  have hall : ∀ b, b ∈ (⟨r, q, A, T, ci, E⟩ : Kn).bs p → w0.heap.size + 2 ≤ b := by unfold Kn.bs; intro b hb; simp at hb; omega
  have htb : w0.heap.size + 2 ≤ t := by rw [← HTN.out]; omega
  have HALL := Lib.hid hall
  have HK2 := Lib.hid hk2
  have HT2 := Lib.hid ht2
  have HST2 := Lib.hid hst2
  have HFT := Lib.hid hft
  have HAT := Lib.hid hat
  clear hst hst2 hat hbr hbq hbp hbel hb2 hft hall hk2 ht2
  go_wp2_with fail
  rw [show (w1.alloc (.cells #[.int .i64 0, .int .i64 0, .int .i64 0, .int .i64 0, .int .i64 0, .int .i64 0, .int .i64 0, .int .i64 0, .slice none 0 0, .slice none 0 0, .slice none 0 0, .int .i8 0, .int .i8 0, .int .i8 0] 78)) = w2 from HW2.out]
  refine (zcache_any ⟨r, q, A, T, ci, E⟩ p 0 0 0 0 1 L w2 (round_ascii _ p HASC.out) HST2.out (by omega) (by omega) (by omega)).mono ?_
  rintro e w3 ⟨rfl, u3, bp3, bl3, L3, hr3, hu3, _, _, ho3, hk3, hs3⟩
  obtain ⟨u4, rfl⟩ : ∃ v, u3 = v + 1 := ⟨u3 - 1, by omega⟩
  have ht3 := HT2.out.kp hk3 HFT.out.1
  have hc := zanchor_any (.pointer (some ⟨p, 0, none⟩)) (.pointer (some ⟨t, 0, none⟩)) 18 true w3 _ (anchor_any ⟨r, q, A, T, ci, E⟩ p 0 u4 bp3 bl3 0 0 0 t n 0 18 x L3 w3 (round_ascii _ p HASC.out) hr3 ((ho3 24 (by unfold rdOff; omega)).trans HAT.out.a24) ((ho3 25 (by unfold rdOff; omega)).trans HAT.out.a25) ((ho3 26 (by unfold rdOff; omega)).trans HAT.out.a26) ((ho3 19 (by unfold rdOff; omega)).trans HAT.out.a19) (by omega) (by omega) HFI.out HAL.out hn1 hn2 HX.out HEND.out hx0 hx1 HCL.out ht3 HFT.out (by omega))
  have HC := Lib.hid hc
  have HK3 := Lib.hid hk3
  clear hc hr3 ho3 hk3 ht3 HST2 HAT
  go_wp2_with fail
  rw [HTN.out]
  refine HC.out.mono ?_
  rintro e w4 ⟨rfl, v, htok, hheld, hk4⟩
  rw [HEI.out] at htok
  have htx := hheld.txt
  rw [HL0.out] at htx
  have hkall : Kp (t :: (⟨r, q, A, T, ci, E⟩ : Kn).bs p) wa w4 := ((HK2.out.mono (by simp)).trans (HK3.out.mono fun b hb => List.mem_cons_of_mem _ hb)).trans hk4
  have hlow : ∀ b, b ∈ t :: (⟨r, q, A, T, ci, E⟩ : Kn).bs p → w0.heap.size + 2 ≤ b := fun b hb => by
    rcases List.mem_cons.1 hb with rfl | hb
    · exact htb
    · exact HALL.out b hb
  have g6 := N4.out.kp hkall (fun hh => by have := hlow _ hh; omega)
  have g7 := N5.out.kp hkall (fun hh => by have := hlow _ hh; omega)
  have hbf4 := HBA.out.trans (hkall.below (B := w0.heap.size) (by omega) (fun b hb => by have := hlow b hb; omega))
  have HTOK := Lib.hid htok
  have HTX := Lib.hid htx
  have G6 := Lib.hid g6
  have G7 := Lib.hid g7
  have HB4 := Lib.hid hbf4
  have HS4 := Lib.hid hkall.size
  clear htok htx hheld hk4 hkall hlow g6 g7 hbf4 HC HK3 HK2
  go_wp2_with fail
  (try rw [HTN.out])
  refine (scanned_ok (.pointer (some ⟨p, 0, none⟩)) t 18 0 0 0 ei 0 ei 0 v (.slice none 0 0) (.slice none 0 0) 0 0 0 l [] [] w4 HTOK.out HTX.out (.inl ⟨rfl, rfl⟩) (.inl ⟨rfl, rfl⟩) (by decide) (by decide) (by decide)).mono ?_
  rintro e w5 ⟨rfl, hb5⟩
  have hk5 : Kp [] w4 w5 := Kp.of_below hb5
  have h6 := G6.out.kp hk5 (by simp)
  have h7 := G7.out.kp hk5 (by simp)
  have HBF := Lib.hid (HB4.out.trans (hb5.mono (by have := HS4.out; omega)))
  obtain ⟨e0, f0⟩ := at_ h6 0 rfl
  obtain ⟨e1, f1⟩ := at_ h6 1 rfl
  obtain ⟨e2, f2⟩ := at_ h6 2 rfl
  obtain ⟨e3, f3⟩ := at_ h6 3 rfl
  obtain ⟨e4, f4⟩ := at_ h6 4 rfl
  obtain ⟨e5, f5⟩ := at_ h6 5 rfl
  obtain ⟨e6, f6⟩ := at_ h6 6 rfl
  obtain ⟨e7, f7⟩ := at_ h6 7 rfl
  obtain ⟨e8, f8⟩ := at_ h6 8 rfl
  obtain ⟨e9, f9⟩ := at_ h6 9 rfl
  obtain ⟨e10, f10⟩ := at_ h6 10 rfl
  obtain ⟨e11, f11⟩ := at_ h6 11 rfl
  obtain ⟨e12, f12⟩ := at_ h6 12 rfl
  obtain ⟨e13, f13⟩ := at_ h6 13 rfl
  obtain ⟨c0, g0⟩ := at_ h7 0 rfl
  obtain ⟨c1, g1⟩ := at_ h7 1 rfl
  obtain ⟨c2, g2⟩ := at_ h7 2 rfl
  obtain ⟨c3, g3⟩ := at_ h7 3 rfl
  obtain ⟨c4, g4⟩ := at_ h7 4 rfl
  obtain ⟨c5, g5⟩ := at_ h7 5 rfl
  obtain ⟨c6, g6⟩ := at_ h7 6 rfl
  obtain ⟨c7, g7⟩ := at_ h7 7 rfl
  obtain ⟨c8, g8⟩ := at_ h7 8 rfl
  have H6 := Lib.hid h6
  have H7 := Lib.hid h7
  clear h6 h7 hb5 hk5 G6 G7 HB4 HTOK HTX HWA HW2
  unfold full nine
  go_wp2_with fail
  clear e0 e1 e2 e3 e4 e5 e6 e7 e8 e9 e10 e11 e12 e13 f0 f1 f2 f3 f4 f5 f6 f7 f8 f9 f10 f11 f12 f13 c0 c1 c2 c3 c4 c5 c6 c7 c8 g0 g1 g2 g3 g4 g5 g6 g7 g8
  have ne1 : w0.heap.size ≠ w0.heap.size + 1 := by omega
  have ne2 : w0.heap.size + 1 ≠ w0.heap.size := by omega
  have h4 := (((((((((((((((((((((((H6.out.set 0 (.int .i64 18)).set 1 (.int .i64 0)).set 2 (.int .i64 0)).set 3 (.int .i64 0)).set 4 (.int .i64 ei)).set 5 (.int .i64 0)).set 6 (.int .i64 ei)).set 7 (.string (strOfNums l))).set 8 (.string (strOfNums []))).set 9 (.string (strOfNums []))).set 10 (.int .i64 (sty 0))).set 11 (.int .i64 0)).set 12 (.int .i64 0)).set 13 (.int .i64 0)).other (w0.heap.size + 1) 0 (.int .i64 0) ne1).other (w0.heap.size + 1) 1 (.int .i64 0) ne1).other (w0.heap.size + 1) 2 (.int .i64 0) ne1).other (w0.heap.size + 1) 3 (.int .i64 0) ne1).other (w0.heap.size + 1) 4 (.int .i64 0) ne1).other (w0.heap.size + 1) 5 (.int .i64 0) ne1).other (w0.heap.size + 1) 6 (.int .i64 0) ne1).other (w0.heap.size + 1) 7 (.int .i64 0) ne1).other (w0.heap.size + 1) 8 (.int .i64 0) ne1)
  have h5 := (((((((((((((((((((((((H7.out.other w0.heap.size 0 (.int .i64 18) ne2).other w0.heap.size 1 (.int .i64 0) ne2).other w0.heap.size 2 (.int .i64 0) ne2).other w0.heap.size 3 (.int .i64 0) ne2).other w0.heap.size 4 (.int .i64 ei) ne2).other w0.heap.size 5 (.int .i64 0) ne2).other w0.heap.size 6 (.int .i64 ei) ne2).other w0.heap.size 7 (.string (strOfNums l)) ne2).other w0.heap.size 8 (.string (strOfNums [])) ne2).other w0.heap.size 9 (.string (strOfNums [])) ne2).other w0.heap.size 10 (.int .i64 (sty 0)) ne2).other w0.heap.size 11 (.int .i64 0) ne2).other w0.heap.size 12 (.int .i64 0) ne2).other w0.heap.size 13 (.int .i64 0) ne2).set 0 (.int .i64 0)).set 1 (.int .i64 0)).set 2 (.int .i64 0)).set 3 (.int .i64 0)).set 4 (.int .i64 0)).set 5 (.int .i64 0)).set 6 (.int .i64 0)).set 7 (.int .i64 0)).set 8 (.int .i64 0))
  have hbf := (((((((((((((((((((((((HBF.out.setCell (p := ⟨w0.heap.size, 0, none⟩) (by simp) (.int .i64 18)).setCell (p := ⟨w0.heap.size, 1, none⟩) (by simp) (.int .i64 0)).setCell (p := ⟨w0.heap.size, 2, none⟩) (by simp) (.int .i64 0)).setCell (p := ⟨w0.heap.size, 3, none⟩) (by simp) (.int .i64 0)).setCell (p := ⟨w0.heap.size, 4, none⟩) (by simp) (.int .i64 ei)).setCell (p := ⟨w0.heap.size, 5, none⟩) (by simp) (.int .i64 0)).setCell (p := ⟨w0.heap.size, 6, none⟩) (by simp) (.int .i64 ei)).setCell (p := ⟨w0.heap.size, 7, none⟩) (by simp) (.string (strOfNums l))).setCell (p := ⟨w0.heap.size, 8, none⟩) (by simp) (.string (strOfNums []))).setCell (p := ⟨w0.heap.size, 9, none⟩) (by simp) (.string (strOfNums []))).setCell (p := ⟨w0.heap.size, 10, none⟩) (by simp) (.int .i64 (sty 0))).setCell (p := ⟨w0.heap.size, 11, none⟩) (by simp) (.int .i64 0)).setCell (p := ⟨w0.heap.size, 12, none⟩) (by simp) (.int .i64 0)).setCell (p := ⟨w0.heap.size, 13, none⟩) (by simp) (.int .i64 0)).setCell (p := ⟨(w0.heap.size + 1), 0, none⟩) (by simp) (.int .i64 0)).setCell (p := ⟨(w0.heap.size + 1), 1, none⟩) (by simp) (.int .i64 0)).setCell (p := ⟨(w0.heap.size + 1), 2, none⟩) (by simp) (.int .i64 0)).setCell (p := ⟨(w0.heap.size + 1), 3, none⟩) (by simp) (.int .i64 0)).setCell (p := ⟨(w0.heap.size + 1), 4, none⟩) (by simp) (.int .i64 0)).setCell (p := ⟨(w0.heap.size + 1), 5, none⟩) (by simp) (.int .i64 0)).setCell (p := ⟨(w0.heap.size + 1), 6, none⟩) (by simp) (.int .i64 0)).setCell (p := ⟨(w0.heap.size + 1), 7, none⟩) (by simp) (.int .i64 0)).setCell (p := ⟨(w0.heap.size + 1), 8, none⟩) (by simp) (.int .i64 0))
  have e0 := at_ h4 0 rfl
  have e1 := at_ h4 1 rfl
  have e2 := at_ h4 2 rfl
  have e3 := at_ h4 3 rfl
  have e4 := at_ h4 4 rfl
  have e5 := at_ h4 5 rfl
  have e6 := at_ h4 6 rfl
  have e7 := at_ h4 7 rfl
  have e8 := at_ h4 8 rfl
  have e9 := at_ h4 9 rfl
  have e10 := at_ h4 10 rfl
  have e11 := at_ h4 11 rfl
  have e12 := at_ h4 12 rfl
  have e13 := at_ h4 13 rfl
  have c0 := at_ h5 0 rfl
  have c1 := at_ h5 1 rfl
  have c2 := at_ h5 2 rfl
  have c3 := at_ h5 3 rfl
  have c4 := at_ h5 4 rfl
  have c5 := at_ h5 5 rfl
  have c6 := at_ h5 6 rfl
  have c7 := at_ h5 7 rfl
  have c8 := at_ h5 8 rfl
  (try simp only [Exit.inBlock, Exit.then])
  refine bodyPost_ret (by simp [results, Tryd.results17, e0.1, e1.1, e2.1, e3.1, e4.1, e5.1, e6.1, e7.1, e8.1, e9.1, e10.1, e11.1, e12.1, e13.1, c0.1, c1.1, c2.1, c3.1, c4.1, c5.1, c6.1, c7.1, c8.1, go_sem]; try rfl) rfl ?_
  exact ⟨rfl, hbf⟩
set_option maxHeartbeats 8000000 in
set_option maxRecDepth 100000 in
theorem anchor_ok (A : Option Addr) (T : List Int) (ci n : Nat) (x : Int) (E : Value) (w0 : World) (hE : w0.cell? ⟨2, 0, none⟩ = some E) (hEof : IsEof E) (hin : In w0 A T) (hasc : ∀ i, i < T.length → Ok1 (S T i)) (htl : T.length ≤ 2147483647) (htc : T.length ≤ ci)
    (hfirst : cw (S T 0) = 1) (hal : ∀ i, i < n → Al.al (S T (0 + 1 + i)) = true) (hn1 : 1 ≤ n) (hn2 : n ≤ 8) (hx : S T (0 + 1 + n) = x) (hend : Al.al x = false) (hx0 : 0 ≤ x) (hx1 : x < 128) (hcl : isBlankz x = true ∨ (isBlankz x = false ∧ (x = 44 ∨ x = 93 ∨ x = 125))) :
    Calls Tryd.prog 17 #[.slice A T.length ci, .bool false] w0 fun e w' => e = .returned (.tuple #[.agg (full 19 0 0 0 (0 + 1 + n : Nat) 0 (0 + 1 + n : Nat) 0 ((List.range n).map fun j => S T (0 + 1 + j)) [] [] 0 0 0).toArray, .agg (nine 0 0 0 0 0 0 0 0 0).toArray]) ∧ Below w0.heap.size w0 w' := by
  have hg : 2 < w0.heap.size := World.block_lt_of_cell? w0 ⟨2, 0, none⟩ hE
  obtain ⟨ei, HEI⟩ : ∃ x : Int, Hid (((0 + 1 + n : Nat) : Int) = x) := ⟨_, rfl⟩
  obtain ⟨l, HL0⟩ : ∃ l : List Int, Hid (((List.range n).map fun j => S T (0 + 1 + j)) = l) := ⟨_, rfl⟩
  rw [HEI.out, HL0.out]
  obtain ⟨wa, HWA⟩ : ∃ wa : World, Hid (((w0.alloc (.cells (full 0 0 0 0 0 0 0 0 [] [] [] 0 0 0).toArray 37)).alloc (.cells (nine 0 0 0 0 0 0 0 0 0).toArray 31)) = wa) := ⟨_, rfl⟩
  have n4' : Bk wa w0.heap.size 37 (full 0 0 0 0 0 0 0 0 [] [] [] 0 0 0) := by rw [← HWA.out]; exact (Bk.new _ _ _).alloc _
  have n5 : Bk wa (w0.heap.size + 1) 31 (nine 0 0 0 0 0 0 0 0 0) := by
    have := Bk.new (w0.alloc (.cells (full 0 0 0 0 0 0 0 0 [] [] [] 0 0 0).toArray 37)) (nine 0 0 0 0 0 0 0 0 0) 31
    simp only [World.size_alloc] at this
    rw [← HWA.out]
    exact this
  have hba : Below w0.heap.size w0 wa := by rw [← HWA.out]; exact ((Below.refl _ _).alloc (Nat.le_refl _) _).alloc (by simp) _
  have hsa : wa.heap.size = w0.heap.size + 2 := by rw [← HWA.out]; simp
  have hEa : wa.cell? ⟨2, 0, none⟩ = some E := by rw [hba.cell (p := ⟨2, 0, none⟩) hg]; exact hE
  have hina : In wa A T := by
    rcases hin with h | ⟨b, o, e, h1, h2⟩
    · exact .inl h
    · exact .inr ⟨b, o, e, by omega, fun i hi => by rw [hba.cell (p := ⟨b, o + i, none⟩) h1]; exact h2 i hi⟩
  have N4 := Lib.hid n4'
  have N5 := Lib.hid n5
  have HBA := Lib.hid hba
  have HEA := Lib.hid hEa
  have HINA := Lib.hid hina
  have HEE := Lib.hid hEof
  have HASC := Lib.hid hasc
  have HFI := Lib.hid hfirst
  have HAL := Lib.hid hal
  have HX := Lib.hid hx
  have HEND := Lib.hid hend
  have HCL := Lib.hid hcl
  clear hE hEof hin n4' n5 hba hEa hina hasc hfirst hal hx hend hcl
  go_enter Tryd.func17, Tryd.ntmps17
  go_upto_region 1 with fail
  rw [show (w0.alloc (.cells #[.int .i64 0, .int .i64 0, .int .i64 0, .int .i64 0, .int .i64 0, .int .i64 0, .int .i64 0, .string ⟨#[]⟩, .string ⟨#[]⟩, .string ⟨#[]⟩, .int .i64 0, .int .i64 0, .int .i64 0, .int .i64 0] 37)).alloc (.cells #[.int .i64 0, .int .i64 0, .int .i64 0, .int .i64 0, .int .i64 0, .int .i64 0, .int .i64 0, .int .i64 0, .int .i64 0] 31) = wa from HWA.out]
  go_wp2_with fail
  refine (started_any A T.length ci wa).mono ?_
  rintro e w1 ⟨p, r, q, rfl, hp, hpr, hpq, hrq, hbr, hbq, hbp, hbel⟩
  have hst := start_rdr A T ci E wa w1 p r q HEA.out HEE.out HINA.out (good_ascii HASC.out) htl htc hp hpr hpq hrq hbr hbq hbp hbel
  have hlp := hst.pb.lt
  obtain ⟨rl, rpos, ip, eof, RL, BL, stt, hlay, _⟩ := hst.ex
  have hlr : r < w1.heap.size := hlay.rb.lt
  have hlq : q < w1.heap.size := hlay.qb.lt
  clear hlay
  have hat := pStart_at (.slice A T.length ci) (.slice (some ⟨r, 0, none⟩) 0 512) (.slice (some ⟨q, 0, none⟩) 0 1536)
  obtain ⟨L, HL⟩ : ∃ L, Hid (pStart (.slice A T.length ci) (.slice (some ⟨r, 0, none⟩) 0 512) (.slice (some ⟨q, 0, none⟩) 0 1536) = L) := ⟨_, rfl⟩
  rw [HL.out] at hst hat
  have hs1 := hbel.size
  obtain ⟨t, HTN⟩ : ∃ t : Nat, Hid (w1.heap.size = t) := ⟨_, rfl⟩
  obtain ⟨w2, HW2⟩ : ∃ w2 : World, Hid (w1.alloc (.cells tok0.toArray 78) = w2) := ⟨_, rfl⟩
  have hb2 : Below w1.heap.size w1 w2 := by rw [← HW2.out]; exact (Below.refl _ _).alloc (Nat.le_refl _) _
  have hs2 : w2.heap.size = w1.heap.size + 1 := by rw [← HW2.out]; simp
  have ht2 : Bk w2 t 78 tok0 := by rw [← HW2.out, ← HTN.out]; exact Bk.new _ _ _
  have hst2 := rdr_new hst hb2
  have hft : Far ⟨r, q, A, T, ci, E⟩ p t := far_new hst (by rw [← HTN.out]; exact Nat.le_refl _)
  have hk2 : Kp [] wa w2 := (Kp.of_below hbel).trans (Kp.of_below hb2)
  have hall : ∀ b, b ∈ (⟨r, q, A, T, ci, E⟩ : Kn).bs p → w0.heap.size + 2 ≤ b := by unfold Kn.bs; intro b hb; simp at hb; omega
  have htb : w0.heap.size + 2 ≤ t := by rw [← HTN.out]; omega
  have HALL := Lib.hid hall
  have HK2 := Lib.hid hk2
  have HT2 := Lib.hid ht2
  have HST2 := Lib.hid hst2
  have HFT := Lib.hid hft
  have HAT := Lib.hid hat
  clear hst hst2 hat hbr hbq hbp hbel hb2 hft hall hk2 ht2
  go_wp2_with fail
  rw [show (w1.alloc (.cells #[.int .i64 0, .int .i64 0, .int .i64 0, .int .i64 0, .int .i64 0, .int .i64 0, .int .i64 0, .int .i64 0, .slice none 0 0, .slice none 0 0, .slice none 0 0, .int .i8 0, .int .i8 0, .int .i8 0] 78)) = w2 from HW2.out]
  refine (zcache_any ⟨r, q, A, T, ci, E⟩ p 0 0 0 0 1 L w2 (round_ascii _ p HASC.out) HST2.out (by omega) (by omega) (by omega)).mono ?_
  rintro e w3 ⟨rfl, u3, bp3, bl3, L3, hr3, hu3, _, _, ho3, hk3, hs3⟩
  obtain ⟨u4, rfl⟩ : ∃ v, u3 = v + 1 := ⟨u3 - 1, by omega⟩
  have ht3 := HT2.out.kp hk3 HFT.out.1
  have hc := zanchor_any (.pointer (some ⟨p, 0, none⟩)) (.pointer (some ⟨t, 0, none⟩)) 19 true w3 _ (anchor_any ⟨r, q, A, T, ci, E⟩ p 0 u4 bp3 bl3 0 0 0 t n 0 19 x L3 w3 (round_ascii _ p HASC.out) hr3 ((ho3 24 (by unfold rdOff; omega)).trans HAT.out.a24) ((ho3 25 (by unfold rdOff; omega)).trans HAT.out.a25) ((ho3 26 (by unfold rdOff; omega)).trans HAT.out.a26) ((ho3 19 (by unfold rdOff; omega)).trans HAT.out.a19) (by omega) (by omega) HFI.out HAL.out hn1 hn2 HX.out HEND.out hx0 hx1 HCL.out ht3 HFT.out (by omega))
  have HC := Lib.hid hc
  have HK3 := Lib.hid hk3
  clear hc hr3 ho3 hk3 ht3 HST2 HAT
  go_wp2_with fail
  rw [HTN.out]
  refine HC.out.mono ?_
  rintro e w4 ⟨rfl, v, htok, hheld, hk4⟩
  rw [HEI.out] at htok
  have htx := hheld.txt
  rw [HL0.out] at htx
  have hkall : Kp (t :: (⟨r, q, A, T, ci, E⟩ : Kn).bs p) wa w4 := ((HK2.out.mono (by simp)).trans (HK3.out.mono fun b hb => List.mem_cons_of_mem _ hb)).trans hk4
  have hlow : ∀ b, b ∈ t :: (⟨r, q, A, T, ci, E⟩ : Kn).bs p → w0.heap.size + 2 ≤ b := fun b hb => by
    rcases List.mem_cons.1 hb with rfl | hb
    · exact htb
    · exact HALL.out b hb
  have g6 := N4.out.kp hkall (fun hh => by have := hlow _ hh; omega)
  have g7 := N5.out.kp hkall (fun hh => by have := hlow _ hh; omega)
  have hbf4 := HBA.out.trans (hkall.below (B := w0.heap.size) (by omega) (fun b hb => by have := hlow b hb; omega))
  have HTOK := Lib.hid htok
  have HTX := Lib.hid htx
  have G6 := Lib.hid g6
  have G7 := Lib.hid g7
  have HB4 := Lib.hid hbf4
  have HS4 := Lib.hid hkall.size
  clear htok htx hheld hk4 hkall hlow g6 g7 hbf4 HC HK3 HK2
  go_wp2_with fail
  (try rw [HTN.out])
  refine (scanned_ok (.pointer (some ⟨p, 0, none⟩)) t 19 0 0 0 ei 0 ei 0 v (.slice none 0 0) (.slice none 0 0) 0 0 0 l [] [] w4 HTOK.out HTX.out (.inl ⟨rfl, rfl⟩) (.inl ⟨rfl, rfl⟩) (by decide) (by decide) (by decide)).mono ?_
  rintro e w5 ⟨rfl, hb5⟩
  have hk5 : Kp [] w4 w5 := Kp.of_below hb5
  have h6 := G6.out.kp hk5 (by simp)
  have h7 := G7.out.kp hk5 (by simp)
  have HBF := Lib.hid (HB4.out.trans (hb5.mono (by have := HS4.out; omega)))
  obtain ⟨e0, f0⟩ := at_ h6 0 rfl
  obtain ⟨e1, f1⟩ := at_ h6 1 rfl
  obtain ⟨e2, f2⟩ := at_ h6 2 rfl
  obtain ⟨e3, f3⟩ := at_ h6 3 rfl
  obtain ⟨e4, f4⟩ := at_ h6 4 rfl
  obtain ⟨e5, f5⟩ := at_ h6 5 rfl
  obtain ⟨e6, f6⟩ := at_ h6 6 rfl
  obtain ⟨e7, f7⟩ := at_ h6 7 rfl
  obtain ⟨e8, f8⟩ := at_ h6 8 rfl
  obtain ⟨e9, f9⟩ := at_ h6 9 rfl
  obtain ⟨e10, f10⟩ := at_ h6 10 rfl
  obtain ⟨e11, f11⟩ := at_ h6 11 rfl
  obtain ⟨e12, f12⟩ := at_ h6 12 rfl
  obtain ⟨e13, f13⟩ := at_ h6 13 rfl
  obtain ⟨c0, g0⟩ := at_ h7 0 rfl
  obtain ⟨c1, g1⟩ := at_ h7 1 rfl
  obtain ⟨c2, g2⟩ := at_ h7 2 rfl
  obtain ⟨c3, g3⟩ := at_ h7 3 rfl
  obtain ⟨c4, g4⟩ := at_ h7 4 rfl
  obtain ⟨c5, g5⟩ := at_ h7 5 rfl
  obtain ⟨c6, g6⟩ := at_ h7 6 rfl
  obtain ⟨c7, g7⟩ := at_ h7 7 rfl
  obtain ⟨c8, g8⟩ := at_ h7 8 rfl
  have H6 := Lib.hid h6
  have H7 := Lib.hid h7
  clear h6 h7 hb5 hk5 G6 G7 HB4 HTOK HTX HWA HW2
  unfold full nine
  go_wp2_with fail
  clear e0 e1 e2 e3 e4 e5 e6 e7 e8 e9 e10 e11 e12 e13 f0 f1 f2 f3 f4 f5 f6 f7 f8 f9 f10 f11 f12 f13 c0 c1 c2 c3 c4 c5 c6 c7 c8 g0 g1 g2 g3 g4 g5 g6 g7 g8
  have ne1 : w0.heap.size ≠ w0.heap.size + 1 := by omega
  have ne2 : w0.heap.size + 1 ≠ w0.heap.size := by omega
  have h4 := (((((((((((((((((((((((H6.out.set 0 (.int .i64 19)).set 1 (.int .i64 0)).set 2 (.int .i64 0)).set 3 (.int .i64 0)).set 4 (.int .i64 ei)).set 5 (.int .i64 0)).set 6 (.int .i64 ei)).set 7 (.string (strOfNums l))).set 8 (.string (strOfNums []))).set 9 (.string (strOfNums []))).set 10 (.int .i64 (sty 0))).set 11 (.int .i64 0)).set 12 (.int .i64 0)).set 13 (.int .i64 0)).other (w0.heap.size + 1) 0 (.int .i64 0) ne1).other (w0.heap.size + 1) 1 (.int .i64 0) ne1).other (w0.heap.size + 1) 2 (.int .i64 0) ne1).other (w0.heap.size + 1) 3 (.int .i64 0) ne1).other (w0.heap.size + 1) 4 (.int .i64 0) ne1).other (w0.heap.size + 1) 5 (.int .i64 0) ne1).other (w0.heap.size + 1) 6 (.int .i64 0) ne1).other (w0.heap.size + 1) 7 (.int .i64 0) ne1).other (w0.heap.size + 1) 8 (.int .i64 0) ne1)
  have h5 := (((((((((((((((((((((((H7.out.other w0.heap.size 0 (.int .i64 19) ne2).other w0.heap.size 1 (.int .i64 0) ne2).other w0.heap.size 2 (.int .i64 0) ne2).other w0.heap.size 3 (.int .i64 0) ne2).other w0.heap.size 4 (.int .i64 ei) ne2).other w0.heap.size 5 (.int .i64 0) ne2).other w0.heap.size 6 (.int .i64 ei) ne2).other w0.heap.size 7 (.string (strOfNums l)) ne2).other w0.heap.size 8 (.string (strOfNums [])) ne2).other w0.heap.size 9 (.string (strOfNums [])) ne2).other w0.heap.size 10 (.int .i64 (sty 0)) ne2).other w0.heap.size 11 (.int .i64 0) ne2).other w0.heap.size 12 (.int .i64 0) ne2).other w0.heap.size 13 (.int .i64 0) ne2).set 0 (.int .i64 0)).set 1 (.int .i64 0)).set 2 (.int .i64 0)).set 3 (.int .i64 0)).set 4 (.int .i64 0)).set 5 (.int .i64 0)).set 6 (.int .i64 0)).set 7 (.int .i64 0)).set 8 (.int .i64 0))
  have hbf := (((((((((((((((((((((((HBF.out.setCell (p := ⟨w0.heap.size, 0, none⟩) (by simp) (.int .i64 19)).setCell (p := ⟨w0.heap.size, 1, none⟩) (by simp) (.int .i64 0)).setCell (p := ⟨w0.heap.size, 2, none⟩) (by simp) (.int .i64 0)).setCell (p := ⟨w0.heap.size, 3, none⟩) (by simp) (.int .i64 0)).setCell (p := ⟨w0.heap.size, 4, none⟩) (by simp) (.int .i64 ei)).setCell (p := ⟨w0.heap.size, 5, none⟩) (by simp) (.int .i64 0)).setCell (p := ⟨w0.heap.size, 6, none⟩) (by simp) (.int .i64 ei)).setCell (p := ⟨w0.heap.size, 7, none⟩) (by simp) (.string (strOfNums l))).setCell (p := ⟨w0.heap.size, 8, none⟩) (by simp) (.string (strOfNums []))).setCell (p := ⟨w0.heap.size, 9, none⟩) (by simp) (.string (strOfNums []))).setCell (p := ⟨w0.heap.size, 10, none⟩) (by simp) (.int .i64 (sty 0))).setCell (p := ⟨w0.heap.size, 11, none⟩) (by simp) (.int .i64 0)).setCell (p := ⟨w0.heap.size, 12, none⟩) (by simp) (.int .i64 0)).setCell (p := ⟨w0.heap.size, 13, none⟩) (by simp) (.int .i64 0)).setCell (p := ⟨(w0.heap.size + 1), 0, none⟩) (by simp) (.int .i64 0)).setCell (p := ⟨(w0.heap.size + 1), 1, none⟩) (by simp) (.int .i64 0)).setCell (p := ⟨(w0.heap.size + 1), 2, none⟩) (by simp) (.int .i64 0)).setCell (p := ⟨(w0.heap.size + 1), 3, none⟩) (by simp) (.int .i64 0)).setCell (p := ⟨(w0.heap.size + 1), 4, none⟩) (by simp) (.int .i64 0)).setCell (p := ⟨(w0.heap.size + 1), 5, none⟩) (by simp) (.int .i64 0)).setCell (p := ⟨(w0.heap.size + 1), 6, none⟩) (by simp) (.int .i64 0)).setCell (p := ⟨(w0.heap.size + 1), 7, none⟩) (by simp) (.int .i64 0)).setCell (p := ⟨(w0.heap.size + 1), 8, none⟩) (by simp) (.int .i64 0))
  have e0 := at_ h4 0 rfl
  have e1 := at_ h4 1 rfl
  have e2 := at_ h4 2 rfl
  have e3 := at_ h4 3 rfl
  have e4 := at_ h4 4 rfl
  have e5 := at_ h4 5 rfl
  have e6 := at_ h4 6 rfl
  have e7 := at_ h4 7 rfl
  have e8 := at_ h4 8 rfl
  have e9 := at_ h4 9 rfl
  have e10 := at_ h4 10 rfl
  have e11 := at_ h4 11 rfl
  have e12 := at_ h4 12 rfl
  have e13 := at_ h4 13 rfl
  have c0 := at_ h5 0 rfl
  have c1 := at_ h5 1 rfl
  have c2 := at_ h5 2 rfl
  have c3 := at_ h5 3 rfl
  have c4 := at_ h5 4 rfl
  have c5 := at_ h5 5 rfl
  have c6 := at_ h5 6 rfl
  have c7 := at_ h5 7 rfl
  have c8 := at_ h5 8 rfl
  (try simp only [Exit.inBlock, Exit.then])
  refine bodyPost_ret (by simp [results, Tryd.results17, e0.1, e1.1, e2.1, e3.1, e4.1, e5.1, e6.1, e7.1, e8.1, e9.1, e10.1, e11.1, e12.1, e13.1, c0.1, c1.1, c2.1, c3.1, c4.1, c5.1, c6.1, c7.1, c8.1, go_sem]; try rfl) rfl ?_
  exact ⟨rfl, hbf⟩
end Go.Proofs.YtocbbekciphjgaaDoor.Sc
