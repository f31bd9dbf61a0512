/- QjA: parts of the proof, one behind another. -/
import Derived.Test.YtocbbekciphjgaaDoorMh15
import Derived.Test.YtocbbekciphjgaaDoorMh17
/- QjA -/
/- A block scalar at a text's beginning (ZzParserStand, ZzScanBlock, impl.ScanBlock): the walks. Printed by genQj.py. -/
namespace Go.Proofs.YtocbbekciphjgaaDoor.Bs
open Go.RowKit Go.Proofs.YtocbbekciphjgaaDoor.Rdp Go.Proofs.YtocbbekciphjgaaDoor.Pa Go.Proofs.YtocbbekciphjgaaDoor.Sc Go.Proofs.YtocbbekciphjgaaDoor.Qd
set_option linter.unusedVariables false
set_option linter.unusedSimpArgs false
theorem init41 (r q : Value) : (pInit r q).toList[41]? = some (.int .i64 0) := by kernel_rfl
theorem init36 (r q : Value) : (pInit r q).toList[36]? = some (.int .i64 0) := by kernel_rfl
theorem init32 (r q : Value) : (pInit r q).toList[32]? = some (.slice none 0 0) := by kernel_rfl
theorem start41 (T r q : Value) : (pStart T r q)[41]? = some (.int .i64 0) := (pStart_no T r q 41 (by omega) (by omega) (by omega)).trans (init41 r q)
theorem start36 (T r q : Value) : (pStart T r q)[36]? = some (.int .i64 0) := (pStart_no T r q 36 (by omega) (by omega) (by omega)).trans (init36 r q)
theorem start32 (T r q : Value) : (pStart T r q)[32]? = some (.slice none 0 0) := (pStart_no T r q 32 (by omega) (by omega) (by omega)).trans (init32 r q)
theorem cells_low {L L' : List Value} (hc : Sc.Cells L) (hl : L'.length = 52) (h : ∀ j, j ≤ 10 → L'[j]? = L[j]?) : Sc.Cells L' := by
  refine ⟨hl, ?_, ?_, ?_, ?_, ?_, ?_, ?_, ?_, ?_, ?_, ?_⟩
  · rw [h 0 (by omega)]; exact hc.c0
  · rw [h 1 (by omega)]; exact hc.c1
  · rw [h 2 (by omega)]; exact hc.c2
  · rw [h 3 (by omega)]; exact hc.c3
  · rw [h 4 (by omega)]; exact hc.c4
  · rw [h 5 (by omega)]; exact hc.c5
  · rw [h 6 (by omega)]; exact hc.c6
  · rw [h 7 (by omega)]; exact hc.c7
  · rw [h 8 (by omega)]; exact hc.c8
  · rw [h 9 (by omega)]; exact hc.c9
  · rw [h 10 (by omega)]; exact hc.c10
set_option maxHeartbeats 2000000 in
theorem stand_any (p : Nat) (n : Int) (L : List Value) (w : World) (h : Bk w p 120 L) (h41 : L[41]? = some (.int .i64 0)) (h36 : L[36]? = some (.int .i64 0)) :
    Calls Tryd.prog 50 #[.pointer (some ⟨p, 0, none⟩), .int .i64 n, .int .i64 0] w fun e w' => e = .returned (.tuple #[]) ∧ Bk w' p 120 ((L.set 41 (.int .i64 n)).set 36 (.int .i64 0)) ∧ Kp [p] w w' ∧ w'.heap.size = w.heap.size := by
  obtain ⟨c41, f41⟩ := at_ h 41 h41
  obtain ⟨c36, f36⟩ := at_ h 36 h36
  have H := Lib.hid h
  clear h h41 h36
  go_enter Tryd.func50, Tryd.ntmps50
  go_wp2_with fail
  go_end0
  exact ⟨rfl, (H.out.set 41 _).set 36 _, ((Kp.refl [p] w).setCell p 41 _ (by simp)).setCell p 36 _ (by simp), by simp⟩
set_option maxHeartbeats 2000000 in
theorem zblock_any (vp vt : Value) (sg : Bool) (w : World) (R : Ending → World → Prop) (b : Bool) (Q : World → Prop) (hc : Calls Tryd.prog 79 #[vp, vt, .bool sg] w fun e w' => e = .returned (.bool b) ∧ Q w') :
    Calls Tryd.prog 51 #[vp, vt, .bool sg] w fun e w' => e = .returned (.bool b) ∧ Q w' := by
  have HC := Lib.hid hc
  clear hc
  go_enter Tryd.func51, Tryd.ntmps51
  go_wp2_with fail
  refine HC.out.mono ?_
  rintro e w1 ⟨rfl, hq⟩
  have HQ := Lib.hid hq
  clear hq
  go_wp2_with fail
  go_ret
  exact ⟨rfl, HQ.out⟩
set_option maxHeartbeats 8000000 in
set_option maxRecDepth 100000 in
theorem fold_ok (A : Option Addr) (T : List Int) (ci : Nat) (E : Value) (x : Int) (rest : List Int) (w0 : World) (hB : Begun A T ci E x rest w0) (n : Int) (hn0 : -1 ≤ n) (hn1 : n ≤ 1000000) (out : List Int) (hv : Block true n rest (some out)) :
    Calls Tryd.prog 25 #[.slice A T.length ci, .bool false, .int .i64 n] w0 fun e w' => (∃ s0 s1 s2 e0 e1 e2 : Int, e = .returned (.tuple #[.agg (full 21 s0 s1 s2 e0 e1 e2 0 (us out) [] [] 32 0 0).toArray, .agg (nine 0 0 0 0 0 0 0 0 0).toArray])) ∧ Below w0.heap.size w0 w' := by
  have hg : 2 < w0.heap.size := World.block_lt_of_cell? w0 ⟨2, 0, none⟩ hB.eof
  obtain ⟨wa, HWA⟩ : ∃ wa : World, Hid (((w0.alloc (.cells (full 0 0 0 0 0 0 0 0 [] [] [] 0 0 0).toArray 37)).alloc (.cells (nine 0 0 0 0 0 0 0 0 0).toArray 31)) = wa) := ⟨_, rfl⟩
  have hb6 : Bk wa w0.heap.size 37 (full 0 0 0 0 0 0 0 0 [] [] [] 0 0 0) := by rw [← HWA.out]; exact (Bk.new _ _ _).alloc _
  have hb7 : Bk wa (w0.heap.size + 1) 31 (nine 0 0 0 0 0 0 0 0 0) := by
    have := Bk.new (w0.alloc (.cells (full 0 0 0 0 0 0 0 0 [] [] [] 0 0 0).toArray 37)) (nine 0 0 0 0 0 0 0 0 0) 31
    simp only [World.size_alloc] at this
    rw [← HWA.out]
    exact this
  have hb0 : Below w0.heap.size w0 wa := by rw [← HWA.out]; exact ((Below.refl _ _).alloc (Nat.le_refl _) _).alloc (by simp) _
  have hsz : wa.heap.size = w0.heap.size + 2 := by rw [← HWA.out]; simp
  obtain ⟨l, HLO⟩ : ∃ l, Hid (us out = l) := ⟨_, rfl⟩
  rw [HLO.out]
  have hEa : wa.cell? ⟨2, 0, none⟩ = some E := by rw [hb0.cell (p := ⟨2, 0, none⟩) hg]; exact hB.eof
  have hina : In wa A T := by
    rcases hB.inp with h | ⟨b, o, e, h1, h2⟩
    · exact .inl h
    · exact .inr ⟨b, o, e, by omega, fun i hi => by rw [hb0.cell (p := ⟨b, o + i, none⟩) h1]; exact h2 i hi⟩
  have hgood : Rdp.Good T := by rw [hB.text]; exact good_us hB.ch hB.small
  have htl := hB.len
  have htc := hB.cap
  have N4 := Lib.hid hb6
  have N5 := Lib.hid hb7
  have HBA := Lib.hid hb0
  have HEA := Lib.hid hEa
  have HINA := Lib.hid hina
  have HBB := Lib.hid hB
  have HG := Lib.hid hgood
  have HV := Lib.hid hv
  clear hB hb6 hb7 hb0 hEa hina hgood hv
  go_enter Tryd.func25, Tryd.ntmps25
  go_upto_region 1 with fail
  rw [show (w0.alloc (.cells #[.int .i64 0, .int .i64 0, .int .i64 0, .int .i64 0, .int .i64 0, .int .i64 0, .int .i64 0, .string ⟨#[]⟩, .string ⟨#[]⟩, .string ⟨#[]⟩, .int .i64 0, .int .i64 0, .int .i64 0, .int .i64 0] 37)).alloc (.cells #[.int .i64 0, .int .i64 0, .int .i64 0, .int .i64 0, .int .i64 0, .int .i64 0, .int .i64 0, .int .i64 0, .int .i64 0] 31) = wa from HWA.out]
  go_wp2_with fail
  refine (started_any A T.length ci wa).mono ?_
  rintro e w1 ⟨p, r, q, rfl, hp, hpr, hpq, hrq, hbr, hbq, hbp, hbel⟩
  have hst := start_rdr A T ci E wa w1 p r q HEA.out HBB.out.isEof HINA.out HG.out (by omega) htc hp hpr hpq hrq hbr hbq hbp hbel
  have hlp := hst.pb.lt
  obtain ⟨rl, rpos, ip, eof, RL, BL, stt, hlay, _⟩ := hst.ex
  have hlr : r < w1.heap.size := hlay.rb.lt
  have hlq : q < w1.heap.size := hlay.qb.lt
  clear hlay
  have hat := pStart_at (.slice A T.length ci) (.slice (some ⟨r, 0, none⟩) 0 512) (.slice (some ⟨q, 0, none⟩) 0 1536)
  obtain ⟨L, HL⟩ : ∃ L, Hid (pStart (.slice A T.length ci) (.slice (some ⟨r, 0, none⟩) 0 512) (.slice (some ⟨q, 0, none⟩) 0 1536) = L) := ⟨_, rfl⟩
  rw [HL.out] at hst hat
  have hs1 := hbel.size
  have hL41 := start41 (.slice A T.length ci) (.slice (some ⟨r, 0, none⟩) 0 512) (.slice (some ⟨q, 0, none⟩) 0 1536)
  have hL36 := start36 (.slice A T.length ci) (.slice (some ⟨r, 0, none⟩) 0 512) (.slice (some ⟨q, 0, none⟩) 0 1536)
  have hL32 := start32 (.slice A T.length ci) (.slice (some ⟨r, 0, none⟩) 0 512) (.slice (some ⟨q, 0, none⟩) 0 1536)
  rw [HL.out] at hL41 hL36 hL32
  have hlen52 := hst.plen
  have hall : ∀ b, b ∈ (⟨r, q, A, T, ci, E⟩ : Kn).bs p → w0.heap.size + 2 ≤ b := by unfold Kn.bs; intro b hb; simp at hb; omega
  have HALL := Lib.hid hall
  have HST1 := Lib.hid hst
  have HAT1 := Lib.hid hat
  have HKW1 : Hid (Kp [] wa w1) := Kp.of_below hbel
  have HS1 := Lib.hid hs1
  clear hst hat hbr hbq hbp hbel hall
  go_wp2_with fail
  refine (stand_any p n L w1 HST1.out.pb hL41 hL36).mono ?_
  rintro e ws ⟨rfl, hps, hks, hss⟩
  have HSS := Lib.hid hss
  clear hss
  have hst : Rdr (⟨r, q, A, T, ci, E⟩ : Kn) p 0 0 0 0 ((L.set 41 (.int .i64 n)).set 36 (.int .i64 0)) ws := HST1.out.turn hps (by simp [hlen52]) hks (fun j hj => by rw [lset_ne (by omega), lset_ne (by omega)])
  have hS41 : ((L.set 41 (.int .i64 n)).set 36 (.int .i64 0))[41]? = some (.int .i64 n) := by rw [lset_ne (by omega), lset_at (by omega)]
  have hS32 : ((L.set 41 (.int .i64 n)).set 36 (.int .i64 0))[32]? = some (.slice none 0 0) := by rw [lset_ne (by omega), lset_ne (by omega)]; exact hL32
  have hS19 : ((L.set 41 (.int .i64 n)).set 36 (.int .i64 0))[19]? = some (.int .i64 0) := by rw [lset_ne (by omega), lset_ne (by omega)]; exact HAT1.out.a19
  have hS24 : ((L.set 41 (.int .i64 n)).set 36 (.int .i64 0))[24]? = some (.int .i64 0) := by rw [lset_ne (by omega), lset_ne (by omega)]; exact HAT1.out.a24
  have hS25 : ((L.set 41 (.int .i64 n)).set 36 (.int .i64 0))[25]? = some (.int .i64 0) := by rw [lset_ne (by omega), lset_ne (by omega)]; exact HAT1.out.a25
  have hS26 : ((L.set 41 (.int .i64 n)).set 36 (.int .i64 0))[26]? = some (.int .i64 0) := by rw [lset_ne (by omega), lset_ne (by omega)]; exact HAT1.out.a26
  have hSC : Sc.Cells ((L.set 41 (.int .i64 n)).set 36 (.int .i64 0)) := cells_low HAT1.out.cells (by simp [hlen52]) (fun j hj => by rw [lset_ne (by omega), lset_ne (by omega)])
  obtain ⟨LS, HLS⟩ : ∃ LS, Hid ((L.set 41 (.int .i64 n)).set 36 (.int .i64 0) = LS) := ⟨_, rfl⟩
  rw [HLS.out] at hst hS41 hS32 hS19 hS24 hS25 hS26 hSC
  obtain ⟨t, HTN⟩ : ∃ t : Nat, Hid (ws.heap.size = t) := ⟨_, rfl⟩
  obtain ⟨w2, HW2⟩ : ∃ w2 : World, Hid (ws.alloc (.cells tok0.toArray 78) = w2) := ⟨_, rfl⟩
  have hb2 : Below ws.heap.size ws w2 := by rw [← HW2.out]; exact (Below.refl _ _).alloc (Nat.le_refl _) _
  have hs2 : w2.heap.size = ws.heap.size + 1 := by rw [← HW2.out]; simp
  have ht2 : Bk w2 t 78 tok0 := by rw [← HW2.out, ← HTN.out]; exact Bk.new _ _ _
  have hst2 := rdr_new hst hb2
  have hft : Far (⟨r, q, A, T, ci, E⟩ : Kn) p t := far_new hst (by rw [← HTN.out]; exact Nat.le_refl _)
  have hk2 : Kp [p] wa w2 := ((HKW1.out.mono (by simp)).trans hks).trans (Kp.of_below hb2)
  have htb : w0.heap.size + 2 ≤ t := by rw [← HTN.out]; have := HS1.out; have := HSS.out; omega
  have HK2 := Lib.hid hk2
  have HT2 := Lib.hid ht2
  have HST2 := Lib.hid hst2
  have HFT := Lib.hid hft
  have HS41 := Lib.hid hS41
  have HS32 := Lib.hid hS32
  have HS19 := Lib.hid hS19
  have HS24 := Lib.hid hS24
  have HS25 := Lib.hid hS25
  have HS26 := Lib.hid hS26
  have HSC := Lib.hid hSC
  clear hst hst2 hb2 hft hk2 ht2 hps hks hS41 hS32 hS19 hS24 hS25 hS26 hSC hL41 hL36 hL32 HST1 HAT1
  go_wp2_with fail
  rw [show (ws.alloc (.cells #[.int .i64 0, .int .i64 0, .int .i64 0, .int .i64 0, .int .i64 0, .int .i64 0, .int .i64 0, .int .i64 0, .slice none 0 0, .slice none 0 0, .slice none 0 0, .int .i8 0, .int .i8 0, .int .i8 0] 78)) = w2 from HW2.out]
  have hrok : RoundOk (⟨r, q, A, T, ci, E⟩ : Kn) p := round_utf8 _ p HG.out
  refine (zcache_any (⟨r, q, A, T, ci, E⟩ : Kn) p 0 0 0 0 1 LS w2 hrok HST2.out (by omega) (by omega) (by have := HS1.out; have := HSS.out; omega)).mono ?_
  rintro e w3 ⟨rfl, u3, bp3, bl3, L3, hr3, hu3, _, _, ho3, hk3, hs3, _⟩
  obtain ⟨u4, rfl⟩ : ∃ v, u3 = v + 1 := ⟨u3 - 1, by omega⟩
  have ht3 := HT2.out.kp hk3 HFT.out.1
  have hat3 : At (⟨r, q, A, T, ci, E⟩ : Kn) p LS 0 (u4 + 1) 0 (x :: rest) w3 := ⟨⟨HBB.out.text, Nat.zero_le _⟩, HBB.out.ch, HBB.out.len, bp3, bl3, 0, 0, 0, L3, hr3, (ho3 24 (by unfold rdOff; omega)).trans HS24.out, (ho3 25 (by unfold rdOff; omega)).trans HS25.out, (ho3 26 (by unfold rdOff; omega)).trans HS26.out, (ho3 19 (by unfold rdOff; omega)).trans HS19.out, Nat.le_refl _, Nat.le_refl _, Nat.le_refl _, fun j h1 h2 h3 h4 h5 => ho3 j h1⟩
  have hfl := block_any (⟨r, q, A, T, ci, E⟩ : Kn) p t 0 u4 0 true n LS x rest _ w3 hrok hat3 HSC.out HS32.out HS41.out hn0 hn1 HV.out ht3 HFT.out (by have := HS1.out; have := HSS.out; omega)
  have hfl2 : Calls Tryd.prog 79 #[.pointer (some ⟨p, 0, none⟩), .pointer (some ⟨t, 0, none⟩), .bool false] w3 fun e w' => e = .returned (.bool true) ∧ ∃ sv s0 s1 s2 e0 e1 e2, Bk w' t 78 (tok 21 s0 s1 s2 e0 e1 e2 0 sv (.slice none 0 0) (.slice none 0 0) 32 0 0) ∧ Tx w' sv (us out) ∧ Kp (t :: (⟨r, q, A, T, ci, E⟩ : Kn).bs p) w3 w' := hfl.mono fun e w' h => by
    rcases h with ⟨out2, sv, h1, h2, ⟨s0, s1, s2, e0, e1, e2, h3⟩, h4, h5⟩ | ⟨h1, _⟩
    · cases h1
      exact ⟨h2, sv, s0, s1, s2, e0, e1, e2, h3, h4, h5⟩
    · cases h1
  have hc := zblock_any _ _ _ _ (fun _ _ => True) _ _ hfl2
  have HC := Lib.hid hc
  have HK3 := Lib.hid hk3
  clear hc hr3 ho3 hk3 ht3 HST2 hat3 hfl hfl2 hrok HS41 HS32 HS19 HS24 HS25 HS26 HSC
  go_wp2_with fail
  rw [HTN.out]
  refine HC.out.mono ?_
  rintro e w4 ⟨rfl, v, s0, s1, s2, e0', e1', e2', htok, htx, hk4⟩
  have hkall : Kp (t :: (⟨r, q, A, T, ci, E⟩ : Kn).bs p) wa w4 := ((HK2.out.mono (fun b hb => by rw [List.mem_singleton] at hb; rw [hb]; exact List.mem_cons_of_mem _ (Kn.mp _ p))).trans (HK3.out.mono fun b hb => List.mem_cons_of_mem _ hb)).trans hk4
  have hlow : ∀ b, b ∈ t :: (⟨r, q, A, T, ci, E⟩ : Kn).bs p → w0.heap.size + 2 ≤ b := fun b hb => by
    rcases List.mem_cons.1 hb with rfl | hb
    · exact htb
    · exact HALL.out b hb
  have g6 := N4.out.kp hkall (fun hh => by have := hlow _ hh; omega)
  have g7 := N5.out.kp hkall (fun hh => by have := hlow _ hh; omega)
  have hbf4 := HBA.out.trans (hkall.below (B := w0.heap.size) (by omega) (fun b hb => by have := hlow b hb; omega))
  have G6 := Lib.hid g6
  have G7 := Lib.hid g7
  have HB4 := Lib.hid hbf4
  have HS4 := Lib.hid hkall.size
  have HTOK := Lib.hid htok
  have HTX := Lib.hid htx
  rw [HLO.out] at HTX
  clear htok htx hk4 hkall hlow g6 g7 hbf4 HC HK3 HK2
  go_wp2_with fail
  (try rw [HTN.out])
  refine (scanned_ok (.pointer (some ⟨p, 0, none⟩)) t 21 s0 s1 s2 e0' e1' e2' 0 v (.slice none 0 0) (.slice none 0 0) 32 0 0 l [] [] w4 HTOK.out HTX.out (.inl ⟨rfl, rfl⟩) (.inl ⟨rfl, rfl⟩) (by decide) (by decide) (by decide)).mono ?_
  rintro e w5 ⟨rfl, hb5⟩
  have hk5 : Kp [] w4 w5 := Kp.of_below hb5
  have h6 := G6.out.kp hk5 (by simp)
  have h7 := G7.out.kp hk5 (by simp)
  have HBF := Lib.hid (HB4.out.trans (hb5.mono (by have := HS4.out; omega)))
  obtain ⟨e0, f0⟩ := at_ h6 0 rfl
  obtain ⟨e1, f1⟩ := at_ h6 1 rfl
  obtain ⟨e2, f2⟩ := at_ h6 2 rfl
  obtain ⟨e3, f3⟩ := at_ h6 3 rfl
  obtain ⟨e4, f4⟩ := at_ h6 4 rfl
  obtain ⟨e5, f5⟩ := at_ h6 5 rfl
  obtain ⟨e6, f6⟩ := at_ h6 6 rfl
  obtain ⟨e7, f7⟩ := at_ h6 7 rfl
  obtain ⟨e8, f8⟩ := at_ h6 8 rfl
  obtain ⟨e9, f9⟩ := at_ h6 9 rfl
  obtain ⟨e10, f10⟩ := at_ h6 10 rfl
  obtain ⟨e11, f11⟩ := at_ h6 11 rfl
  obtain ⟨e12, f12⟩ := at_ h6 12 rfl
  obtain ⟨e13, f13⟩ := at_ h6 13 rfl
  obtain ⟨c0, g0⟩ := at_ h7 0 rfl
  obtain ⟨c1, g1⟩ := at_ h7 1 rfl
  obtain ⟨c2, g2⟩ := at_ h7 2 rfl
  obtain ⟨c3, g3⟩ := at_ h7 3 rfl
  obtain ⟨c4, g4⟩ := at_ h7 4 rfl
  obtain ⟨c5, g5⟩ := at_ h7 5 rfl
  obtain ⟨c6, g6⟩ := at_ h7 6 rfl
  obtain ⟨c7, g7⟩ := at_ h7 7 rfl
  obtain ⟨c8, g8⟩ := at_ h7 8 rfl
  have H6 := Lib.hid h6
  have H7 := Lib.hid h7
  clear h6 h7 hb5 hk5 G6 G7 HB4 HTOK HTX HWA HW2 HLS HL
  (try unfold full)
  (try unfold nine)
  go_wp2_with fail
  clear e0 e1 e2 e3 e4 e5 e6 e7 e8 e9 e10 e11 e12 e13 f0 f1 f2 f3 f4 f5 f6 f7 f8 f9 f10 f11 f12 f13 c0 c1 c2 c3 c4 c5 c6 c7 c8 g0 g1 g2 g3 g4 g5 g6 g7 g8
  have ne1 : w0.heap.size ≠ w0.heap.size + 1 := by omega
  have ne2 : w0.heap.size + 1 ≠ w0.heap.size := by omega
  have h4 := (((((((((((((((((((((((H6.out.set 0 (.int .i64 21)).set 1 (.int .i64 s0)).set 2 (.int .i64 s1)).set 3 (.int .i64 s2)).set 4 (.int .i64 e0')).set 5 (.int .i64 e1')).set 6 (.int .i64 e2')).set 7 (.string (strOfNums l))).set 8 (.string (strOfNums []))).set 9 (.string (strOfNums []))).set 10 (.int .i64 (sty 32))).set 11 (.int .i64 0)).set 12 (.int .i64 0)).set 13 (.int .i64 0)).other (w0.heap.size + 1) 0 (.int .i64 0) ne1).other (w0.heap.size + 1) 1 (.int .i64 0) ne1).other (w0.heap.size + 1) 2 (.int .i64 0) ne1).other (w0.heap.size + 1) 3 (.int .i64 0) ne1).other (w0.heap.size + 1) 4 (.int .i64 0) ne1).other (w0.heap.size + 1) 5 (.int .i64 0) ne1).other (w0.heap.size + 1) 6 (.int .i64 0) ne1).other (w0.heap.size + 1) 7 (.int .i64 0) ne1).other (w0.heap.size + 1) 8 (.int .i64 0) ne1)
  have h5 := (((((((((((((((((((((((H7.out.other w0.heap.size 0 (.int .i64 21) ne2).other w0.heap.size 1 (.int .i64 s0) ne2).other w0.heap.size 2 (.int .i64 s1) ne2).other w0.heap.size 3 (.int .i64 s2) ne2).other w0.heap.size 4 (.int .i64 e0') ne2).other w0.heap.size 5 (.int .i64 e1') ne2).other w0.heap.size 6 (.int .i64 e2') ne2).other w0.heap.size 7 (.string (strOfNums l)) ne2).other w0.heap.size 8 (.string (strOfNums [])) ne2).other w0.heap.size 9 (.string (strOfNums [])) ne2).other w0.heap.size 10 (.int .i64 (sty 32)) ne2).other w0.heap.size 11 (.int .i64 0) ne2).other w0.heap.size 12 (.int .i64 0) ne2).other w0.heap.size 13 (.int .i64 0) ne2).set 0 (.int .i64 0)).set 1 (.int .i64 0)).set 2 (.int .i64 0)).set 3 (.int .i64 0)).set 4 (.int .i64 0)).set 5 (.int .i64 0)).set 6 (.int .i64 0)).set 7 (.int .i64 0)).set 8 (.int .i64 0))
  have hbf := (((((((((((((((((((((((HBF.out.setCell (p := ⟨w0.heap.size, 0, none⟩) (by simp) (.int .i64 21)).setCell (p := ⟨w0.heap.size, 1, none⟩) (by simp) (.int .i64 s0)).setCell (p := ⟨w0.heap.size, 2, none⟩) (by simp) (.int .i64 s1)).setCell (p := ⟨w0.heap.size, 3, none⟩) (by simp) (.int .i64 s2)).setCell (p := ⟨w0.heap.size, 4, none⟩) (by simp) (.int .i64 e0')).setCell (p := ⟨w0.heap.size, 5, none⟩) (by simp) (.int .i64 e1')).setCell (p := ⟨w0.heap.size, 6, none⟩) (by simp) (.int .i64 e2')).setCell (p := ⟨w0.heap.size, 7, none⟩) (by simp) (.string (strOfNums l))).setCell (p := ⟨w0.heap.size, 8, none⟩) (by simp) (.string (strOfNums []))).setCell (p := ⟨w0.heap.size, 9, none⟩) (by simp) (.string (strOfNums []))).setCell (p := ⟨w0.heap.size, 10, none⟩) (by simp) (.int .i64 (sty 32))).setCell (p := ⟨w0.heap.size, 11, none⟩) (by simp) (.int .i64 0)).setCell (p := ⟨w0.heap.size, 12, none⟩) (by simp) (.int .i64 0)).setCell (p := ⟨w0.heap.size, 13, none⟩) (by simp) (.int .i64 0)).setCell (p := ⟨(w0.heap.size + 1), 0, none⟩) (by simp) (.int .i64 0)).setCell (p := ⟨(w0.heap.size + 1), 1, none⟩) (by simp) (.int .i64 0)).setCell (p := ⟨(w0.heap.size + 1), 2, none⟩) (by simp) (.int .i64 0)).setCell (p := ⟨(w0.heap.size + 1), 3, none⟩) (by simp) (.int .i64 0)).setCell (p := ⟨(w0.heap.size + 1), 4, none⟩) (by simp) (.int .i64 0)).setCell (p := ⟨(w0.heap.size + 1), 5, none⟩) (by simp) (.int .i64 0)).setCell (p := ⟨(w0.heap.size + 1), 6, none⟩) (by simp) (.int .i64 0)).setCell (p := ⟨(w0.heap.size + 1), 7, none⟩) (by simp) (.int .i64 0)).setCell (p := ⟨(w0.heap.size + 1), 8, none⟩) (by simp) (.int .i64 0))
  have k0 := at_ h4 0 rfl
  have k1 := at_ h4 1 rfl
  have k2 := at_ h4 2 rfl
  have k3 := at_ h4 3 rfl
  have k4 := at_ h4 4 rfl
  have k5 := at_ h4 5 rfl
  have k6 := at_ h4 6 rfl
  have k7 := at_ h4 7 rfl
  have k8 := at_ h4 8 rfl
  have k9 := at_ h4 9 rfl
  have k10 := at_ h4 10 rfl
  have k11 := at_ h4 11 rfl
  have k12 := at_ h4 12 rfl
  have k13 := at_ h4 13 rfl
  have c0 := at_ h5 0 rfl
  have c1 := at_ h5 1 rfl
  have c2 := at_ h5 2 rfl
  have c3 := at_ h5 3 rfl
  have c4 := at_ h5 4 rfl
  have c5 := at_ h5 5 rfl
  have c6 := at_ h5 6 rfl
  have c7 := at_ h5 7 rfl
  have c8 := at_ h5 8 rfl
  (try simp only [Exit.inBlock, Exit.then])
  refine bodyPost_ret (by simp [results, Tryd.results25, k0.1, k1.1, k2.1, k3.1, k4.1, k5.1, k6.1, k7.1, k8.1, k9.1, k10.1, k11.1, k12.1, k13.1, c0.1, c1.1, c2.1, c3.1, c4.1, c5.1, c6.1, c7.1, c8.1, go_sem]; try rfl) rfl ?_
  exact ⟨⟨s0, s1, s2, e0', e1', e2', rfl⟩, hbf⟩
set_option maxHeartbeats 8000000 in
set_option maxRecDepth 100000 in
theorem fold_bad (A : Option Addr) (T : List Int) (ci : Nat) (E : Value) (x : Int) (rest : List Int) (w0 : World) (hB : Begun A T ci E x rest w0) (n : Int) (hn0 : -1 ≤ n) (hn1 : n ≤ 1000000) (hv : Block true n rest none) :
    Calls Tryd.prog 25 #[.slice A T.length ci, .bool false, .int .i64 n] w0 fun e w' => (∃ a0 a1 a2 b0 b1 b2 z2 z3 : Int, e = .returned (.tuple #[.agg (full 0 0 0 0 0 0 0 0 [] [] [] 0 0 0).toArray, .agg (nine 2 a0 a1 a2 b0 b1 b2 z2 z3).toArray])) ∧ Below w0.heap.size w0 w' := by
  have hg : 2 < w0.heap.size := World.block_lt_of_cell? w0 ⟨2, 0, none⟩ hB.eof
  obtain ⟨wa, HWA⟩ : ∃ wa : World, Hid (((w0.alloc (.cells (full 0 0 0 0 0 0 0 0 [] [] [] 0 0 0).toArray 37)).alloc (.cells (nine 0 0 0 0 0 0 0 0 0).toArray 31)) = wa) := ⟨_, rfl⟩
  have hb6 : Bk wa w0.heap.size 37 (full 0 0 0 0 0 0 0 0 [] [] [] 0 0 0) := by rw [← HWA.out]; exact (Bk.new _ _ _).alloc _
  have hb7 : Bk wa (w0.heap.size + 1) 31 (nine 0 0 0 0 0 0 0 0 0) := by
    have := Bk.new (w0.alloc (.cells (full 0 0 0 0 0 0 0 0 [] [] [] 0 0 0).toArray 37)) (nine 0 0 0 0 0 0 0 0 0) 31
    simp only [World.size_alloc] at this
    rw [← HWA.out]
    exact this
  have hb0 : Below w0.heap.size w0 wa := by rw [← HWA.out]; exact ((Below.refl _ _).alloc (Nat.le_refl _) _).alloc (by simp) _
  have hsz : wa.heap.size = w0.heap.size + 2 := by rw [← HWA.out]; simp
  have hEa : wa.cell? ⟨2, 0, none⟩ = some E := by rw [hb0.cell (p := ⟨2, 0, none⟩) hg]; exact hB.eof
  have hina : In wa A T := by
    rcases hB.inp with h | ⟨b, o, e, h1, h2⟩
    · exact .inl h
    · exact .inr ⟨b, o, e, by omega, fun i hi => by rw [hb0.cell (p := ⟨b, o + i, none⟩) h1]; exact h2 i hi⟩
  have hgood : Rdp.Good T := by rw [hB.text]; exact good_us hB.ch hB.small
  have htl := hB.len
  have htc := hB.cap
  have N4 := Lib.hid hb6
  have N5 := Lib.hid hb7
  have HBA := Lib.hid hb0
  have HEA := Lib.hid hEa
  have HINA := Lib.hid hina
  have HBB := Lib.hid hB
  have HG := Lib.hid hgood
  have HV := Lib.hid hv
  clear hB hb6 hb7 hb0 hEa hina hgood hv
  go_enter Tryd.func25, Tryd.ntmps25
  go_upto_region 1 with fail
  rw [show (w0.alloc (.cells #[.int .i64 0, .int .i64 0, .int .i64 0, .int .i64 0, .int .i64 0, .int .i64 0, .int .i64 0, .string ⟨#[]⟩, .string ⟨#[]⟩, .string ⟨#[]⟩, .int .i64 0, .int .i64 0, .int .i64 0, .int .i64 0] 37)).alloc (.cells #[.int .i64 0, .int .i64 0, .int .i64 0, .int .i64 0, .int .i64 0, .int .i64 0, .int .i64 0, .int .i64 0, .int .i64 0] 31) = wa from HWA.out]
  go_wp2_with fail
  refine (started_any A T.length ci wa).mono ?_
  rintro e w1 ⟨p, r, q, rfl, hp, hpr, hpq, hrq, hbr, hbq, hbp, hbel⟩
  have hst := start_rdr A T ci E wa w1 p r q HEA.out HBB.out.isEof HINA.out HG.out (by omega) htc hp hpr hpq hrq hbr hbq hbp hbel
  have hlp := hst.pb.lt
  obtain ⟨rl, rpos, ip, eof, RL, BL, stt, hlay, _⟩ := hst.ex
  have hlr : r < w1.heap.size := hlay.rb.lt
  have hlq : q < w1.heap.size := hlay.qb.lt
  clear hlay
  have hat := pStart_at (.slice A T.length ci) (.slice (some ⟨r, 0, none⟩) 0 512) (.slice (some ⟨q, 0, none⟩) 0 1536)
  obtain ⟨L, HL⟩ : ∃ L, Hid (pStart (.slice A T.length ci) (.slice (some ⟨r, 0, none⟩) 0 512) (.slice (some ⟨q, 0, none⟩) 0 1536) = L) := ⟨_, rfl⟩
  rw [HL.out] at hst hat
  have hs1 := hbel.size
  have hL41 := start41 (.slice A T.length ci) (.slice (some ⟨r, 0, none⟩) 0 512) (.slice (some ⟨q, 0, none⟩) 0 1536)
  have hL36 := start36 (.slice A T.length ci) (.slice (some ⟨r, 0, none⟩) 0 512) (.slice (some ⟨q, 0, none⟩) 0 1536)
  have hL32 := start32 (.slice A T.length ci) (.slice (some ⟨r, 0, none⟩) 0 512) (.slice (some ⟨q, 0, none⟩) 0 1536)
  rw [HL.out] at hL41 hL36 hL32
  have hlen52 := hst.plen
  have hall : ∀ b, b ∈ (⟨r, q, A, T, ci, E⟩ : Kn).bs p → w0.heap.size + 2 ≤ b := by unfold Kn.bs; intro b hb; simp at hb; omega
  have HALL := Lib.hid hall
  have HST1 := Lib.hid hst
  have HAT1 := Lib.hid hat
  have HKW1 : Hid (Kp [] wa w1) := Kp.of_below hbel
  have HS1 := Lib.hid hs1
  clear hst hat hbr hbq hbp hbel hall
  go_wp2_with fail
  refine (stand_any p n L w1 HST1.out.pb hL41 hL36).mono ?_
  rintro e ws ⟨rfl, hps, hks, hss⟩
  have HSS := Lib.hid hss
  clear hss
  have hst : Rdr (⟨r, q, A, T, ci, E⟩ : Kn) p 0 0 0 0 ((L.set 41 (.int .i64 n)).set 36 (.int .i64 0)) ws := HST1.out.turn hps (by simp [hlen52]) hks (fun j hj => by rw [lset_ne (by omega), lset_ne (by omega)])
  have hS41 : ((L.set 41 (.int .i64 n)).set 36 (.int .i64 0))[41]? = some (.int .i64 n) := by rw [lset_ne (by omega), lset_at (by omega)]
  have hS32 : ((L.set 41 (.int .i64 n)).set 36 (.int .i64 0))[32]? = some (.slice none 0 0) := by rw [lset_ne (by omega), lset_ne (by omega)]; exact hL32
  have hS19 : ((L.set 41 (.int .i64 n)).set 36 (.int .i64 0))[19]? = some (.int .i64 0) := by rw [lset_ne (by omega), lset_ne (by omega)]; exact HAT1.out.a19
  have hS24 : ((L.set 41 (.int .i64 n)).set 36 (.int .i64 0))[24]? = some (.int .i64 0) := by rw [lset_ne (by omega), lset_ne (by omega)]; exact HAT1.out.a24
  have hS25 : ((L.set 41 (.int .i64 n)).set 36 (.int .i64 0))[25]? = some (.int .i64 0) := by rw [lset_ne (by omega), lset_ne (by omega)]; exact HAT1.out.a25
  have hS26 : ((L.set 41 (.int .i64 n)).set 36 (.int .i64 0))[26]? = some (.int .i64 0) := by rw [lset_ne (by omega), lset_ne (by omega)]; exact HAT1.out.a26
  have hSC : Sc.Cells ((L.set 41 (.int .i64 n)).set 36 (.int .i64 0)) := cells_low HAT1.out.cells (by simp [hlen52]) (fun j hj => by rw [lset_ne (by omega), lset_ne (by omega)])
  obtain ⟨LS, HLS⟩ : ∃ LS, Hid ((L.set 41 (.int .i64 n)).set 36 (.int .i64 0) = LS) := ⟨_, rfl⟩
  rw [HLS.out] at hst hS41 hS32 hS19 hS24 hS25 hS26 hSC
  obtain ⟨t, HTN⟩ : ∃ t : Nat, Hid (ws.heap.size = t) := ⟨_, rfl⟩
  obtain ⟨w2, HW2⟩ : ∃ w2 : World, Hid (ws.alloc (.cells tok0.toArray 78) = w2) := ⟨_, rfl⟩
  have hb2 : Below ws.heap.size ws w2 := by rw [← HW2.out]; exact (Below.refl _ _).alloc (Nat.le_refl _) _
  have hs2 : w2.heap.size = ws.heap.size + 1 := by rw [← HW2.out]; simp
  have ht2 : Bk w2 t 78 tok0 := by rw [← HW2.out, ← HTN.out]; exact Bk.new _ _ _
  have hst2 := rdr_new hst hb2
  have hft : Far (⟨r, q, A, T, ci, E⟩ : Kn) p t := far_new hst (by rw [← HTN.out]; exact Nat.le_refl _)
  have hk2 : Kp [p] wa w2 := ((HKW1.out.mono (by simp)).trans hks).trans (Kp.of_below hb2)
  have htb : w0.heap.size + 2 ≤ t := by rw [← HTN.out]; have := HS1.out; have := HSS.out; omega
  have HK2 := Lib.hid hk2
  have HT2 := Lib.hid ht2
  have HST2 := Lib.hid hst2
  have HFT := Lib.hid hft
  have HS41 := Lib.hid hS41
  have HS32 := Lib.hid hS32
  have HS19 := Lib.hid hS19
  have HS24 := Lib.hid hS24
  have HS25 := Lib.hid hS25
  have HS26 := Lib.hid hS26
  have HSC := Lib.hid hSC
  clear hst hst2 hb2 hft hk2 ht2 hps hks hS41 hS32 hS19 hS24 hS25 hS26 hSC hL41 hL36 hL32 HST1 HAT1
  go_wp2_with fail
  rw [show (ws.alloc (.cells #[.int .i64 0, .int .i64 0, .int .i64 0, .int .i64 0, .int .i64 0, .int .i64 0, .int .i64 0, .int .i64 0, .slice none 0 0, .slice none 0 0, .slice none 0 0, .int .i8 0, .int .i8 0, .int .i8 0] 78)) = w2 from HW2.out]
  have hrok : RoundOk (⟨r, q, A, T, ci, E⟩ : Kn) p := round_utf8 _ p HG.out
  refine (zcache_any (⟨r, q, A, T, ci, E⟩ : Kn) p 0 0 0 0 1 LS w2 hrok HST2.out (by omega) (by omega) (by have := HS1.out; have := HSS.out; omega)).mono ?_
  rintro e w3 ⟨rfl, u3, bp3, bl3, L3, hr3, hu3, _, _, ho3, hk3, hs3, _⟩
  obtain ⟨u4, rfl⟩ : ∃ v, u3 = v + 1 := ⟨u3 - 1, by omega⟩
  have ht3 := HT2.out.kp hk3 HFT.out.1
  have hat3 : At (⟨r, q, A, T, ci, E⟩ : Kn) p LS 0 (u4 + 1) 0 (x :: rest) w3 := ⟨⟨HBB.out.text, Nat.zero_le _⟩, HBB.out.ch, HBB.out.len, bp3, bl3, 0, 0, 0, L3, hr3, (ho3 24 (by unfold rdOff; omega)).trans HS24.out, (ho3 25 (by unfold rdOff; omega)).trans HS25.out, (ho3 26 (by unfold rdOff; omega)).trans HS26.out, (ho3 19 (by unfold rdOff; omega)).trans HS19.out, Nat.le_refl _, Nat.le_refl _, Nat.le_refl _, fun j h1 h2 h3 h4 h5 => ho3 j h1⟩
  have hfl := block_any (⟨r, q, A, T, ci, E⟩ : Kn) p t 0 u4 0 true n LS x rest _ w3 hrok hat3 HSC.out HS32.out HS41.out hn0 hn1 HV.out ht3 HFT.out (by have := HS1.out; have := HSS.out; omega)
  have hfl2 : Calls Tryd.prog 79 #[.pointer (some ⟨p, 0, none⟩), .pointer (some ⟨t, 0, none⟩), .bool false] w3 fun e w' => e = .returned (.bool false) ∧ Er (⟨r, q, A, T, ci, E⟩ : Kn) p w3 w' := hfl.mono fun e w' h => by
    rcases h with ⟨out2, sv, h1, _⟩ | ⟨h1, h2, h3⟩
    · cases h1
    · exact ⟨h2, h3⟩
  have hc := zblock_any _ _ _ _ (fun _ _ => True) _ _ hfl2
  have HC := Lib.hid hc
  have HK3 := Lib.hid hk3
  clear hc hr3 ho3 hk3 ht3 HST2 hat3 hfl hfl2 hrok HS41 HS32 HS19 HS24 HS25 HS26 HSC
  go_wp2_with fail
  rw [HTN.out]
  refine HC.out.mono ?_
  rintro e w4 ⟨rfl, L', hbL, hcL, h0L, hk4'⟩
  have hk4 := hk4'.mono (qs := t :: (⟨r, q, A, T, ci, E⟩ : Kn).bs p) (fun b hb => List.mem_cons_of_mem _ hb)
  have hkall : Kp (t :: (⟨r, q, A, T, ci, E⟩ : Kn).bs p) wa w4 := ((HK2.out.mono (fun b hb => by rw [List.mem_singleton] at hb; rw [hb]; exact List.mem_cons_of_mem _ (Kn.mp _ p))).trans (HK3.out.mono fun b hb => List.mem_cons_of_mem _ hb)).trans hk4
  have hlow : ∀ b, b ∈ t :: (⟨r, q, A, T, ci, E⟩ : Kn).bs p → w0.heap.size + 2 ≤ b := fun b hb => by
    rcases List.mem_cons.1 hb with rfl | hb
    · exact htb
    · exact HALL.out b hb
  have g6 := N4.out.kp hkall (fun hh => by have := hlow _ hh; omega)
  have g7 := N5.out.kp hkall (fun hh => by have := hlow _ hh; omega)
  have hbf4 := HBA.out.trans (hkall.below (B := w0.heap.size) (by omega) (fun b hb => by have := hlow b hb; omega))
  have G6 := Lib.hid g6
  have G7 := Lib.hid g7
  have HB4 := Lib.hid hbf4
  have HS4 := Lib.hid hkall.size
  have HBL := Lib.hid hbL
  have HCL := Lib.hid hcL
  have H0L := Lib.hid h0L
  clear hbL hcL h0L hk4 hk4' hkall hlow g6 g7 hbf4 HC HK3 HK2
  go_wp2_with fail
  (try rw [HTN.out])
  refine (scanned_bad p (.pointer (some ⟨t, 0, none⟩)) L' w4 HBL.out HCL.out H0L.out).mono ?_
  rintro e w5 ⟨⟨a0, a1, a2, b0, b1, b2, z2, z3, rfl⟩, hb5⟩
  have hk5 : Kp [] w4 w5 := Kp.of_below hb5
  have h6 := G6.out.kp hk5 (by simp)
  have h7 := G7.out.kp hk5 (by simp)
  have HBF := Lib.hid (HB4.out.trans (hb5.mono (by have := HS4.out; omega)))
  obtain ⟨e0, f0⟩ := at_ h6 0 rfl
  obtain ⟨e1, f1⟩ := at_ h6 1 rfl
  obtain ⟨e2, f2⟩ := at_ h6 2 rfl
  obtain ⟨e3, f3⟩ := at_ h6 3 rfl
  obtain ⟨e4, f4⟩ := at_ h6 4 rfl
  obtain ⟨e5, f5⟩ := at_ h6 5 rfl
  obtain ⟨e6, f6⟩ := at_ h6 6 rfl
  obtain ⟨e7, f7⟩ := at_ h6 7 rfl
  obtain ⟨e8, f8⟩ := at_ h6 8 rfl
  obtain ⟨e9, f9⟩ := at_ h6 9 rfl
  obtain ⟨e10, f10⟩ := at_ h6 10 rfl
  obtain ⟨e11, f11⟩ := at_ h6 11 rfl
  obtain ⟨e12, f12⟩ := at_ h6 12 rfl
  obtain ⟨e13, f13⟩ := at_ h6 13 rfl
  obtain ⟨c0, g0⟩ := at_ h7 0 rfl
  obtain ⟨c1, g1⟩ := at_ h7 1 rfl
  obtain ⟨c2, g2⟩ := at_ h7 2 rfl
  obtain ⟨c3, g3⟩ := at_ h7 3 rfl
  obtain ⟨c4, g4⟩ := at_ h7 4 rfl
  obtain ⟨c5, g5⟩ := at_ h7 5 rfl
  obtain ⟨c6, g6⟩ := at_ h7 6 rfl
  obtain ⟨c7, g7⟩ := at_ h7 7 rfl
  obtain ⟨c8, g8⟩ := at_ h7 8 rfl
  have H6 := Lib.hid h6
  have H7 := Lib.hid h7
  clear h6 h7 hb5 hk5 G6 G7 HB4 HBL HCL H0L HWA HW2 HLS HL
  (try unfold full)
  (try unfold nine)
  go_wp2_with fail
  clear e0 e1 e2 e3 e4 e5 e6 e7 e8 e9 e10 e11 e12 e13 f0 f1 f2 f3 f4 f5 f6 f7 f8 f9 f10 f11 f12 f13 c0 c1 c2 c3 c4 c5 c6 c7 c8 g0 g1 g2 g3 g4 g5 g6 g7 g8
  have ne1 : w0.heap.size ≠ w0.heap.size + 1 := by omega
  have ne2 : w0.heap.size + 1 ≠ w0.heap.size := by omega
  have h4 := (((((((((((((((((((((((H6.out.set 0 (.int .i64 0)).set 1 (.int .i64 0)).set 2 (.int .i64 0)).set 3 (.int .i64 0)).set 4 (.int .i64 0)).set 5 (.int .i64 0)).set 6 (.int .i64 0)).set 7 (.string (strOfNums []))).set 8 (.string (strOfNums []))).set 9 (.string (strOfNums []))).set 10 (.int .i64 (sty 0))).set 11 (.int .i64 0)).set 12 (.int .i64 0)).set 13 (.int .i64 0)).other (w0.heap.size + 1) 0 (.int .i64 2) ne1).other (w0.heap.size + 1) 1 (.int .i64 a0) ne1).other (w0.heap.size + 1) 2 (.int .i64 a1) ne1).other (w0.heap.size + 1) 3 (.int .i64 a2) ne1).other (w0.heap.size + 1) 4 (.int .i64 b0) ne1).other (w0.heap.size + 1) 5 (.int .i64 b1) ne1).other (w0.heap.size + 1) 6 (.int .i64 b2) ne1).other (w0.heap.size + 1) 7 (.int .i64 z2) ne1).other (w0.heap.size + 1) 8 (.int .i64 z3) ne1)
  have h5 := (((((((((((((((((((((((H7.out.other w0.heap.size 0 (.int .i64 0) ne2).other w0.heap.size 1 (.int .i64 0) ne2).other w0.heap.size 2 (.int .i64 0) ne2).other w0.heap.size 3 (.int .i64 0) ne2).other w0.heap.size 4 (.int .i64 0) ne2).other w0.heap.size 5 (.int .i64 0) ne2).other w0.heap.size 6 (.int .i64 0) ne2).other w0.heap.size 7 (.string (strOfNums [])) ne2).other w0.heap.size 8 (.string (strOfNums [])) ne2).other w0.heap.size 9 (.string (strOfNums [])) ne2).other w0.heap.size 10 (.int .i64 (sty 0)) ne2).other w0.heap.size 11 (.int .i64 0) ne2).other w0.heap.size 12 (.int .i64 0) ne2).other w0.heap.size 13 (.int .i64 0) ne2).set 0 (.int .i64 2)).set 1 (.int .i64 a0)).set 2 (.int .i64 a1)).set 3 (.int .i64 a2)).set 4 (.int .i64 b0)).set 5 (.int .i64 b1)).set 6 (.int .i64 b2)).set 7 (.int .i64 z2)).set 8 (.int .i64 z3))
  have hbf := (((((((((((((((((((((((HBF.out.setCell (p := ⟨w0.heap.size, 0, none⟩) (by simp) (.int .i64 0)).setCell (p := ⟨w0.heap.size, 1, none⟩) (by simp) (.int .i64 0)).setCell (p := ⟨w0.heap.size, 2, none⟩) (by simp) (.int .i64 0)).setCell (p := ⟨w0.heap.size, 3, none⟩) (by simp) (.int .i64 0)).setCell (p := ⟨w0.heap.size, 4, none⟩) (by simp) (.int .i64 0)).setCell (p := ⟨w0.heap.size, 5, none⟩) (by simp) (.int .i64 0)).setCell (p := ⟨w0.heap.size, 6, none⟩) (by simp) (.int .i64 0)).setCell (p := ⟨w0.heap.size, 7, none⟩) (by simp) (.string (strOfNums []))).setCell (p := ⟨w0.heap.size, 8, none⟩) (by simp) (.string (strOfNums []))).setCell (p := ⟨w0.heap.size, 9, none⟩) (by simp) (.string (strOfNums []))).setCell (p := ⟨w0.heap.size, 10, none⟩) (by simp) (.int .i64 (sty 0))).setCell (p := ⟨w0.heap.size, 11, none⟩) (by simp) (.int .i64 0)).setCell (p := ⟨w0.heap.size, 12, none⟩) (by simp) (.int .i64 0)).setCell (p := ⟨w0.heap.size, 13, none⟩) (by simp) (.int .i64 0)).setCell (p := ⟨(w0.heap.size + 1), 0, none⟩) (by simp) (.int .i64 2)).setCell (p := ⟨(w0.heap.size + 1), 1, none⟩) (by simp) (.int .i64 a0)).setCell (p := ⟨(w0.heap.size + 1), 2, none⟩) (by simp) (.int .i64 a1)).setCell (p := ⟨(w0.heap.size + 1), 3, none⟩) (by simp) (.int .i64 a2)).setCell (p := ⟨(w0.heap.size + 1), 4, none⟩) (by simp) (.int .i64 b0)).setCell (p := ⟨(w0.heap.size + 1), 5, none⟩) (by simp) (.int .i64 b1)).setCell (p := ⟨(w0.heap.size + 1), 6, none⟩) (by simp) (.int .i64 b2)).setCell (p := ⟨(w0.heap.size + 1), 7, none⟩) (by simp) (.int .i64 z2)).setCell (p := ⟨(w0.heap.size + 1), 8, none⟩) (by simp) (.int .i64 z3))
  have k0 := at_ h4 0 rfl
  have k1 := at_ h4 1 rfl
  have k2 := at_ h4 2 rfl
  have k3 := at_ h4 3 rfl
  have k4 := at_ h4 4 rfl
  have k5 := at_ h4 5 rfl
  have k6 := at_ h4 6 rfl
  have k7 := at_ h4 7 rfl
  have k8 := at_ h4 8 rfl
  have k9 := at_ h4 9 rfl
  have k10 := at_ h4 10 rfl
  have k11 := at_ h4 11 rfl
  have k12 := at_ h4 12 rfl
  have k13 := at_ h4 13 rfl
  have c0 := at_ h5 0 rfl
  have c1 := at_ h5 1 rfl
  have c2 := at_ h5 2 rfl
  have c3 := at_ h5 3 rfl
  have c4 := at_ h5 4 rfl
  have c5 := at_ h5 5 rfl
  have c6 := at_ h5 6 rfl
  have c7 := at_ h5 7 rfl
  have c8 := at_ h5 8 rfl
  (try simp only [Exit.inBlock, Exit.then])
  refine bodyPost_ret (by simp [results, Tryd.results25, k0.1, k1.1, k2.1, k3.1, k4.1, k5.1, k6.1, k7.1, k8.1, k9.1, k10.1, k11.1, k12.1, k13.1, c0.1, c1.1, c2.1, c3.1, c4.1, c5.1, c6.1, c7.1, c8.1, go_sem]; try rfl) rfl ?_
  exact ⟨⟨a0, a1, a2, b0, b1, b2, z2, z3, rfl⟩, hbf⟩
set_option maxHeartbeats 8000000 in
set_option maxRecDepth 100000 in
theorem lit_ok (A : Option Addr) (T : List Int) (ci : Nat) (E : Value) (x : Int) (rest : List Int) (w0 : World) (hB : Begun A T ci E x rest w0) (n : Int) (hn0 : -1 ≤ n) (hn1 : n ≤ 1000000) (out : List Int) (hv : Block false n rest (some out)) :
    Calls Tryd.prog 25 #[.slice A T.length ci, .bool true, .int .i64 n] w0 fun e w' => (∃ s0 s1 s2 e0 e1 e2 : Int, e = .returned (.tuple #[.agg (full 21 s0 s1 s2 e0 e1 e2 0 (us out) [] [] 16 0 0).toArray, .agg (nine 0 0 0 0 0 0 0 0 0).toArray])) ∧ Below w0.heap.size w0 w' := by
  have hg : 2 < w0.heap.size := World.block_lt_of_cell? w0 ⟨2, 0, none⟩ hB.eof
  obtain ⟨wa, HWA⟩ : ∃ wa : World, Hid (((w0.alloc (.cells (full 0 0 0 0 0 0 0 0 [] [] [] 0 0 0).toArray 37)).alloc (.cells (nine 0 0 0 0 0 0 0 0 0).toArray 31)) = wa) := ⟨_, rfl⟩
  have hb6 : Bk wa w0.heap.size 37 (full 0 0 0 0 0 0 0 0 [] [] [] 0 0 0) := by rw [← HWA.out]; exact (Bk.new _ _ _).alloc _
  have hb7 : Bk wa (w0.heap.size + 1) 31 (nine 0 0 0 0 0 0 0 0 0) := by
    have := Bk.new (w0.alloc (.cells (full 0 0 0 0 0 0 0 0 [] [] [] 0 0 0).toArray 37)) (nine 0 0 0 0 0 0 0 0 0) 31
    simp only [World.size_alloc] at this
    rw [← HWA.out]
    exact this
  have hb0 : Below w0.heap.size w0 wa := by rw [← HWA.out]; exact ((Below.refl _ _).alloc (Nat.le_refl _) _).alloc (by simp) _
  have hsz : wa.heap.size = w0.heap.size + 2 := by rw [← HWA.out]; simp
  obtain ⟨l, HLO⟩ : ∃ l, Hid (us out = l) := ⟨_, rfl⟩
  rw [HLO.out]
  have hEa : wa.cell? ⟨2, 0, none⟩ = some E := by rw [hb0.cell (p := ⟨2, 0, none⟩) hg]; exact hB.eof
  have hina : In wa A T := by
    rcases hB.inp with h | ⟨b, o, e, h1, h2⟩
    · exact .inl h
    · exact .inr ⟨b, o, e, by omega, fun i hi => by rw [hb0.cell (p := ⟨b, o + i, none⟩) h1]; exact h2 i hi⟩
  have hgood : Rdp.Good T := by rw [hB.text]; exact good_us hB.ch hB.small
  have htl := hB.len
  have htc := hB.cap
  have N4 := Lib.hid hb6
  have N5 := Lib.hid hb7
  have HBA := Lib.hid hb0
  have HEA := Lib.hid hEa
  have HINA := Lib.hid hina
  have HBB := Lib.hid hB
  have HG := Lib.hid hgood
  have HV := Lib.hid hv
  clear hB hb6 hb7 hb0 hEa hina hgood hv
  go_enter Tryd.func25, Tryd.ntmps25
  go_upto_region 1 with fail
  rw [show (w0.alloc (.cells #[.int .i64 0, .int .i64 0, .int .i64 0, .int .i64 0, .int .i64 0, .int .i64 0, .int .i64 0, .string ⟨#[]⟩, .string ⟨#[]⟩, .string ⟨#[]⟩, .int .i64 0, .int .i64 0, .int .i64 0, .int .i64 0] 37)).alloc (.cells #[.int .i64 0, .int .i64 0, .int .i64 0, .int .i64 0, .int .i64 0, .int .i64 0, .int .i64 0, .int .i64 0, .int .i64 0] 31) = wa from HWA.out]
  go_wp2_with fail
  refine (started_any A T.length ci wa).mono ?_
  rintro e w1 ⟨p, r, q, rfl, hp, hpr, hpq, hrq, hbr, hbq, hbp, hbel⟩
  have hst := start_rdr A T ci E wa w1 p r q HEA.out HBB.out.isEof HINA.out HG.out (by omega) htc hp hpr hpq hrq hbr hbq hbp hbel
  have hlp := hst.pb.lt
  obtain ⟨rl, rpos, ip, eof, RL, BL, stt, hlay, _⟩ := hst.ex
  have hlr : r < w1.heap.size := hlay.rb.lt
  have hlq : q < w1.heap.size := hlay.qb.lt
  clear hlay
  have hat := pStart_at (.slice A T.length ci) (.slice (some ⟨r, 0, none⟩) 0 512) (.slice (some ⟨q, 0, none⟩) 0 1536)
  obtain ⟨L, HL⟩ : ∃ L, Hid (pStart (.slice A T.length ci) (.slice (some ⟨r, 0, none⟩) 0 512) (.slice (some ⟨q, 0, none⟩) 0 1536) = L) := ⟨_, rfl⟩
  rw [HL.out] at hst hat
  have hs1 := hbel.size
  have hL41 := start41 (.slice A T.length ci) (.slice (some ⟨r, 0, none⟩) 0 512) (.slice (some ⟨q, 0, none⟩) 0 1536)
  have hL36 := start36 (.slice A T.length ci) (.slice (some ⟨r, 0, none⟩) 0 512) (.slice (some ⟨q, 0, none⟩) 0 1536)
  have hL32 := start32 (.slice A T.length ci) (.slice (some ⟨r, 0, none⟩) 0 512) (.slice (some ⟨q, 0, none⟩) 0 1536)
  rw [HL.out] at hL41 hL36 hL32
  have hlen52 := hst.plen
  have hall : ∀ b, b ∈ (⟨r, q, A, T, ci, E⟩ : Kn).bs p → w0.heap.size + 2 ≤ b := by unfold Kn.bs; intro b hb; simp at hb; omega
  have HALL := Lib.hid hall
  have HST1 := Lib.hid hst
  have HAT1 := Lib.hid hat
  have HKW1 : Hid (Kp [] wa w1) := Kp.of_below hbel
  have HS1 := Lib.hid hs1
  clear hst hat hbr hbq hbp hbel hall
  go_wp2_with fail
  refine (stand_any p n L w1 HST1.out.pb hL41 hL36).mono ?_
  rintro e ws ⟨rfl, hps, hks, hss⟩
  have HSS := Lib.hid hss
  clear hss
  have hst : Rdr (⟨r, q, A, T, ci, E⟩ : Kn) p 0 0 0 0 ((L.set 41 (.int .i64 n)).set 36 (.int .i64 0)) ws := HST1.out.turn hps (by simp [hlen52]) hks (fun j hj => by rw [lset_ne (by omega), lset_ne (by omega)])
  have hS41 : ((L.set 41 (.int .i64 n)).set 36 (.int .i64 0))[41]? = some (.int .i64 n) := by rw [lset_ne (by omega), lset_at (by omega)]
  have hS32 : ((L.set 41 (.int .i64 n)).set 36 (.int .i64 0))[32]? = some (.slice none 0 0) := by rw [lset_ne (by omega), lset_ne (by omega)]; exact hL32
  have hS19 : ((L.set 41 (.int .i64 n)).set 36 (.int .i64 0))[19]? = some (.int .i64 0) := by rw [lset_ne (by omega), lset_ne (by omega)]; exact HAT1.out.a19
  have hS24 : ((L.set 41 (.int .i64 n)).set 36 (.int .i64 0))[24]? = some (.int .i64 0) := by rw [lset_ne (by omega), lset_ne (by omega)]; exact HAT1.out.a24
  have hS25 : ((L.set 41 (.int .i64 n)).set 36 (.int .i64 0))[25]? = some (.int .i64 0) := by rw [lset_ne (by omega), lset_ne (by omega)]; exact HAT1.out.a25
  have hS26 : ((L.set 41 (.int .i64 n)).set 36 (.int .i64 0))[26]? = some (.int .i64 0) := by rw [lset_ne (by omega), lset_ne (by omega)]; exact HAT1.out.a26
  have hSC : Sc.Cells ((L.set 41 (.int .i64 n)).set 36 (.int .i64 0)) := cells_low HAT1.out.cells (by simp [hlen52]) (fun j hj => by rw [lset_ne (by omega), lset_ne (by omega)])
  obtain ⟨LS, HLS⟩ : ∃ LS, Hid ((L.set 41 (.int .i64 n)).set 36 (.int .i64 0) = LS) := ⟨_, rfl⟩
  rw [HLS.out] at hst hS41 hS32 hS19 hS24 hS25 hS26 hSC
  obtain ⟨t, HTN⟩ : ∃ t : Nat, Hid (ws.heap.size = t) := ⟨_, rfl⟩
  obtain ⟨w2, HW2⟩ : ∃ w2 : World, Hid (ws.alloc (.cells tok0.toArray 78) = w2) := ⟨_, rfl⟩
  have hb2 : Below ws.heap.size ws w2 := by rw [← HW2.out]; exact (Below.refl _ _).alloc (Nat.le_refl _) _
  have hs2 : w2.heap.size = ws.heap.size + 1 := by rw [← HW2.out]; simp
  have ht2 : Bk w2 t 78 tok0 := by rw [← HW2.out, ← HTN.out]; exact Bk.new _ _ _
  have hst2 := rdr_new hst hb2
  have hft : Far (⟨r, q, A, T, ci, E⟩ : Kn) p t := far_new hst (by rw [← HTN.out]; exact Nat.le_refl _)
  have hk2 : Kp [p] wa w2 := ((HKW1.out.mono (by simp)).trans hks).trans (Kp.of_below hb2)
  have htb : w0.heap.size + 2 ≤ t := by rw [← HTN.out]; have := HS1.out; have := HSS.out; omega
  have HK2 := Lib.hid hk2
  have HT2 := Lib.hid ht2
  have HST2 := Lib.hid hst2
  have HFT := Lib.hid hft
  have HS41 := Lib.hid hS41
  have HS32 := Lib.hid hS32
  have HS19 := Lib.hid hS19
  have HS24 := Lib.hid hS24
  have HS25 := Lib.hid hS25
  have HS26 := Lib.hid hS26
  have HSC := Lib.hid hSC
  clear hst hst2 hb2 hft hk2 ht2 hps hks hS41 hS32 hS19 hS24 hS25 hS26 hSC hL41 hL36 hL32 HST1 HAT1
  go_wp2_with fail
  rw [show (ws.alloc (.cells #[.int .i64 0, .int .i64 0, .int .i64 0, .int .i64 0, .int .i64 0, .int .i64 0, .int .i64 0, .int .i64 0, .slice none 0 0, .slice none 0 0, .slice none 0 0, .int .i8 0, .int .i8 0, .int .i8 0] 78)) = w2 from HW2.out]
  have hrok : RoundOk (⟨r, q, A, T, ci, E⟩ : Kn) p := round_utf8 _ p HG.out
  refine (zcache_any (⟨r, q, A, T, ci, E⟩ : Kn) p 0 0 0 0 1 LS w2 hrok HST2.out (by omega) (by omega) (by have := HS1.out; have := HSS.out; omega)).mono ?_
  rintro e w3 ⟨rfl, u3, bp3, bl3, L3, hr3, hu3, _, _, ho3, hk3, hs3, _⟩
  obtain ⟨u4, rfl⟩ : ∃ v, u3 = v + 1 := ⟨u3 - 1, by omega⟩
  have ht3 := HT2.out.kp hk3 HFT.out.1
  have hat3 : At (⟨r, q, A, T, ci, E⟩ : Kn) p LS 0 (u4 + 1) 0 (x :: rest) w3 := ⟨⟨HBB.out.text, Nat.zero_le _⟩, HBB.out.ch, HBB.out.len, bp3, bl3, 0, 0, 0, L3, hr3, (ho3 24 (by unfold rdOff; omega)).trans HS24.out, (ho3 25 (by unfold rdOff; omega)).trans HS25.out, (ho3 26 (by unfold rdOff; omega)).trans HS26.out, (ho3 19 (by unfold rdOff; omega)).trans HS19.out, Nat.le_refl _, Nat.le_refl _, Nat.le_refl _, fun j h1 h2 h3 h4 h5 => ho3 j h1⟩
  have hfl := block_any (⟨r, q, A, T, ci, E⟩ : Kn) p t 0 u4 0 false n LS x rest _ w3 hrok hat3 HSC.out HS32.out HS41.out hn0 hn1 HV.out ht3 HFT.out (by have := HS1.out; have := HSS.out; omega)
  have hfl2 : Calls Tryd.prog 79 #[.pointer (some ⟨p, 0, none⟩), .pointer (some ⟨t, 0, none⟩), .bool true] w3 fun e w' => e = .returned (.bool true) ∧ ∃ sv s0 s1 s2 e0 e1 e2, Bk w' t 78 (tok 21 s0 s1 s2 e0 e1 e2 0 sv (.slice none 0 0) (.slice none 0 0) 16 0 0) ∧ Tx w' sv (us out) ∧ Kp (t :: (⟨r, q, A, T, ci, E⟩ : Kn).bs p) w3 w' := hfl.mono fun e w' h => by
    rcases h with ⟨out2, sv, h1, h2, ⟨s0, s1, s2, e0, e1, e2, h3⟩, h4, h5⟩ | ⟨h1, _⟩
    · cases h1
      exact ⟨h2, sv, s0, s1, s2, e0, e1, e2, h3, h4, h5⟩
    · cases h1
  have hc := zblock_any _ _ _ _ (fun _ _ => True) _ _ hfl2
  have HC := Lib.hid hc
  have HK3 := Lib.hid hk3
  clear hc hr3 ho3 hk3 ht3 HST2 hat3 hfl hfl2 hrok HS41 HS32 HS19 HS24 HS25 HS26 HSC
  go_wp2_with fail
  rw [HTN.out]
  refine HC.out.mono ?_
  rintro e w4 ⟨rfl, v, s0, s1, s2, e0', e1', e2', htok, htx, hk4⟩
  have hkall : Kp (t :: (⟨r, q, A, T, ci, E⟩ : Kn).bs p) wa w4 := ((HK2.out.mono (fun b hb => by rw [List.mem_singleton] at hb; rw [hb]; exact List.mem_cons_of_mem _ (Kn.mp _ p))).trans (HK3.out.mono fun b hb => List.mem_cons_of_mem _ hb)).trans hk4
  have hlow : ∀ b, b ∈ t :: (⟨r, q, A, T, ci, E⟩ : Kn).bs p → w0.heap.size + 2 ≤ b := fun b hb => by
    rcases List.mem_cons.1 hb with rfl | hb
    · exact htb
    · exact HALL.out b hb
  have g6 := N4.out.kp hkall (fun hh => by have := hlow _ hh; omega)
  have g7 := N5.out.kp hkall (fun hh => by have := hlow _ hh; omega)
  have hbf4 := HBA.out.trans (hkall.below (B := w0.heap.size) (by omega) (fun b hb => by have := hlow b hb; omega))
  have G6 := Lib.hid g6
  have G7 := Lib.hid g7
  have HB4 := Lib.hid hbf4
  have HS4 := Lib.hid hkall.size
  have HTOK := Lib.hid htok
  have HTX := Lib.hid htx
  rw [HLO.out] at HTX
  clear htok htx hk4 hkall hlow g6 g7 hbf4 HC HK3 HK2
  go_wp2_with fail
  (try rw [HTN.out])
  refine (scanned_ok (.pointer (some ⟨p, 0, none⟩)) t 21 s0 s1 s2 e0' e1' e2' 0 v (.slice none 0 0) (.slice none 0 0) 16 0 0 l [] [] w4 HTOK.out HTX.out (.inl ⟨rfl, rfl⟩) (.inl ⟨rfl, rfl⟩) (by decide) (by decide) (by decide)).mono ?_
  rintro e w5 ⟨rfl, hb5⟩
  have hk5 : Kp [] w4 w5 := Kp.of_below hb5
  have h6 := G6.out.kp hk5 (by simp)
  have h7 := G7.out.kp hk5 (by simp)
  have HBF := Lib.hid (HB4.out.trans (hb5.mono (by have := HS4.out; omega)))
  obtain ⟨e0, f0⟩ := at_ h6 0 rfl
  obtain ⟨e1, f1⟩ := at_ h6 1 rfl
  obtain ⟨e2, f2⟩ := at_ h6 2 rfl
  obtain ⟨e3, f3⟩ := at_ h6 3 rfl
  obtain ⟨e4, f4⟩ := at_ h6 4 rfl
  obtain ⟨e5, f5⟩ := at_ h6 5 rfl
  obtain ⟨e6, f6⟩ := at_ h6 6 rfl
  obtain ⟨e7, f7⟩ := at_ h6 7 rfl
  obtain ⟨e8, f8⟩ := at_ h6 8 rfl
  obtain ⟨e9, f9⟩ := at_ h6 9 rfl
  obtain ⟨e10, f10⟩ := at_ h6 10 rfl
  obtain ⟨e11, f11⟩ := at_ h6 11 rfl
  obtain ⟨e12, f12⟩ := at_ h6 12 rfl
  obtain ⟨e13, f13⟩ := at_ h6 13 rfl
  obtain ⟨c0, g0⟩ := at_ h7 0 rfl
  obtain ⟨c1, g1⟩ := at_ h7 1 rfl
  obtain ⟨c2, g2⟩ := at_ h7 2 rfl
  obtain ⟨c3, g3⟩ := at_ h7 3 rfl
  obtain ⟨c4, g4⟩ := at_ h7 4 rfl
  obtain ⟨c5, g5⟩ := at_ h7 5 rfl
  obtain ⟨c6, g6⟩ := at_ h7 6 rfl
  obtain ⟨c7, g7⟩ := at_ h7 7 rfl
  obtain ⟨c8, g8⟩ := at_ h7 8 rfl
  have H6 := Lib.hid h6
  have H7 := Lib.hid h7
  clear h6 h7 hb5 hk5 G6 G7 HB4 HTOK HTX HWA HW2 HLS HL
  (try unfold full)
  (try unfold nine)
  go_wp2_with fail
  clear e0 e1 e2 e3 e4 e5 e6 e7 e8 e9 e10 e11 e12 e13 f0 f1 f2 f3 f4 f5 f6 f7 f8 f9 f10 f11 f12 f13 c0 c1 c2 c3 c4 c5 c6 c7 c8 g0 g1 g2 g3 g4 g5 g6 g7 g8
  have ne1 : w0.heap.size ≠ w0.heap.size + 1 := by omega
  have ne2 : w0.heap.size + 1 ≠ w0.heap.size := by omega
  have h4 := (((((((((((((((((((((((H6.out.set 0 (.int .i64 21)).set 1 (.int .i64 s0)).set 2 (.int .i64 s1)).set 3 (.int .i64 s2)).set 4 (.int .i64 e0')).set 5 (.int .i64 e1')).set 6 (.int .i64 e2')).set 7 (.string (strOfNums l))).set 8 (.string (strOfNums []))).set 9 (.string (strOfNums []))).set 10 (.int .i64 (sty 16))).set 11 (.int .i64 0)).set 12 (.int .i64 0)).set 13 (.int .i64 0)).other (w0.heap.size + 1) 0 (.int .i64 0) ne1).other (w0.heap.size + 1) 1 (.int .i64 0) ne1).other (w0.heap.size + 1) 2 (.int .i64 0) ne1).other (w0.heap.size + 1) 3 (.int .i64 0) ne1).other (w0.heap.size + 1) 4 (.int .i64 0) ne1).other (w0.heap.size + 1) 5 (.int .i64 0) ne1).other (w0.heap.size + 1) 6 (.int .i64 0) ne1).other (w0.heap.size + 1) 7 (.int .i64 0) ne1).other (w0.heap.size + 1) 8 (.int .i64 0) ne1)
  have h5 := (((((((((((((((((((((((H7.out.other w0.heap.size 0 (.int .i64 21) ne2).other w0.heap.size 1 (.int .i64 s0) ne2).other w0.heap.size 2 (.int .i64 s1) ne2).other w0.heap.size 3 (.int .i64 s2) ne2).other w0.heap.size 4 (.int .i64 e0') ne2).other w0.heap.size 5 (.int .i64 e1') ne2).other w0.heap.size 6 (.int .i64 e2') ne2).other w0.heap.size 7 (.string (strOfNums l)) ne2).other w0.heap.size 8 (.string (strOfNums [])) ne2).other w0.heap.size 9 (.string (strOfNums [])) ne2).other w0.heap.size 10 (.int .i64 (sty 16)) ne2).other w0.heap.size 11 (.int .i64 0) ne2).other w0.heap.size 12 (.int .i64 0) ne2).other w0.heap.size 13 (.int .i64 0) ne2).set 0 (.int .i64 0)).set 1 (.int .i64 0)).set 2 (.int .i64 0)).set 3 (.int .i64 0)).set 4 (.int .i64 0)).set 5 (.int .i64 0)).set 6 (.int .i64 0)).set 7 (.int .i64 0)).set 8 (.int .i64 0))
  have hbf := (((((((((((((((((((((((HBF.out.setCell (p := ⟨w0.heap.size, 0, none⟩) (by simp) (.int .i64 21)).setCell (p := ⟨w0.heap.size, 1, none⟩) (by simp) (.int .i64 s0)).setCell (p := ⟨w0.heap.size, 2, none⟩) (by simp) (.int .i64 s1)).setCell (p := ⟨w0.heap.size, 3, none⟩) (by simp) (.int .i64 s2)).setCell (p := ⟨w0.heap.size, 4, none⟩) (by simp) (.int .i64 e0')).setCell (p := ⟨w0.heap.size, 5, none⟩) (by simp) (.int .i64 e1')).setCell (p := ⟨w0.heap.size, 6, none⟩) (by simp) (.int .i64 e2')).setCell (p := ⟨w0.heap.size, 7, none⟩) (by simp) (.string (strOfNums l))).setCell (p := ⟨w0.heap.size, 8, none⟩) (by simp) (.string (strOfNums []))).setCell (p := ⟨w0.heap.size, 9, none⟩) (by simp) (.string (strOfNums []))).setCell (p := ⟨w0.heap.size, 10, none⟩) (by simp) (.int .i64 (sty 16))).setCell (p := ⟨w0.heap.size, 11, none⟩) (by simp) (.int .i64 0)).setCell (p := ⟨w0.heap.size, 12, none⟩) (by simp) (.int .i64 0)).setCell (p := ⟨w0.heap.size, 13, none⟩) (by simp) (.int .i64 0)).setCell (p := ⟨(w0.heap.size + 1), 0, none⟩) (by simp) (.int .i64 0)).setCell (p := ⟨(w0.heap.size + 1), 1, none⟩) (by simp) (.int .i64 0)).setCell (p := ⟨(w0.heap.size + 1), 2, none⟩) (by simp) (.int .i64 0)).setCell (p := ⟨(w0.heap.size + 1), 3, none⟩) (by simp) (.int .i64 0)).setCell (p := ⟨(w0.heap.size + 1), 4, none⟩) (by simp) (.int .i64 0)).setCell (p := ⟨(w0.heap.size + 1), 5, none⟩) (by simp) (.int .i64 0)).setCell (p := ⟨(w0.heap.size + 1), 6, none⟩) (by simp) (.int .i64 0)).setCell (p := ⟨(w0.heap.size + 1), 7, none⟩) (by simp) (.int .i64 0)).setCell (p := ⟨(w0.heap.size + 1), 8, none⟩) (by simp) (.int .i64 0))
  have k0 := at_ h4 0 rfl
  have k1 := at_ h4 1 rfl
  have k2 := at_ h4 2 rfl
  have k3 := at_ h4 3 rfl
  have k4 := at_ h4 4 rfl
  have k5 := at_ h4 5 rfl
  have k6 := at_ h4 6 rfl
  have k7 := at_ h4 7 rfl
  have k8 := at_ h4 8 rfl
  have k9 := at_ h4 9 rfl
  have k10 := at_ h4 10 rfl
  have k11 := at_ h4 11 rfl
  have k12 := at_ h4 12 rfl
  have k13 := at_ h4 13 rfl
  have c0 := at_ h5 0 rfl
  have c1 := at_ h5 1 rfl
  have c2 := at_ h5 2 rfl
  have c3 := at_ h5 3 rfl
  have c4 := at_ h5 4 rfl
  have c5 := at_ h5 5 rfl
  have c6 := at_ h5 6 rfl
  have c7 := at_ h5 7 rfl
  have c8 := at_ h5 8 rfl
  (try simp only [Exit.inBlock, Exit.then])
  refine bodyPost_ret (by simp [results, Tryd.results25, k0.1, k1.1, k2.1, k3.1, k4.1, k5.1, k6.1, k7.1, k8.1, k9.1, k10.1, k11.1, k12.1, k13.1, c0.1, c1.1, c2.1, c3.1, c4.1, c5.1, c6.1, c7.1, c8.1, go_sem]; try rfl) rfl ?_
  exact ⟨⟨s0, s1, s2, e0', e1', e2', rfl⟩, hbf⟩
set_option maxHeartbeats 8000000 in
set_option maxRecDepth 100000 in
theorem lit_bad (A : Option Addr) (T : List Int) (ci : Nat) (E : Value) (x : Int) (rest : List Int) (w0 : World) (hB : Begun A T ci E x rest w0) (n : Int) (hn0 : -1 ≤ n) (hn1 : n ≤ 1000000) (hv : Block false n rest none) :
    Calls Tryd.prog 25 #[.slice A T.length ci, .bool true, .int .i64 n] w0 fun e w' => (∃ a0 a1 a2 b0 b1 b2 z2 z3 : Int, e = .returned (.tuple #[.agg (full 0 0 0 0 0 0 0 0 [] [] [] 0 0 0).toArray, .agg (nine 2 a0 a1 a2 b0 b1 b2 z2 z3).toArray])) ∧ Below w0.heap.size w0 w' := by
  have hg : 2 < w0.heap.size := World.block_lt_of_cell? w0 ⟨2, 0, none⟩ hB.eof
  obtain ⟨wa, HWA⟩ : ∃ wa : World, Hid (((w0.alloc (.cells (full 0 0 0 0 0 0 0 0 [] [] [] 0 0 0).toArray 37)).alloc (.cells (nine 0 0 0 0 0 0 0 0 0).toArray 31)) = wa) := ⟨_, rfl⟩
  have hb6 : Bk wa w0.heap.size 37 (full 0 0 0 0 0 0 0 0 [] [] [] 0 0 0) := by rw [← HWA.out]; exact (Bk.new _ _ _).alloc _
  have hb7 : Bk wa (w0.heap.size + 1) 31 (nine 0 0 0 0 0 0 0 0 0) := by
    have := Bk.new (w0.alloc (.cells (full 0 0 0 0 0 0 0 0 [] [] [] 0 0 0).toArray 37)) (nine 0 0 0 0 0 0 0 0 0) 31
    simp only [World.size_alloc] at this
    rw [← HWA.out]
    exact this
  have hb0 : Below w0.heap.size w0 wa := by rw [← HWA.out]; exact ((Below.refl _ _).alloc (Nat.le_refl _) _).alloc (by simp) _
  have hsz : wa.heap.size = w0.heap.size + 2 := by rw [← HWA.out]; simp
  have hEa : wa.cell? ⟨2, 0, none⟩ = some E := by rw [hb0.cell (p := ⟨2, 0, none⟩) hg]; exact hB.eof
  have hina : In wa A T := by
    rcases hB.inp with h | ⟨b, o, e, h1, h2⟩
    · exact .inl h
    · exact .inr ⟨b, o, e, by omega, fun i hi => by rw [hb0.cell (p := ⟨b, o + i, none⟩) h1]; exact h2 i hi⟩
  have hgood : Rdp.Good T := by rw [hB.text]; exact good_us hB.ch hB.small
  have htl := hB.len
  have htc := hB.cap
  have N4 := Lib.hid hb6
  have N5 := Lib.hid hb7
  have HBA := Lib.hid hb0
  have HEA := Lib.hid hEa
  have HINA := Lib.hid hina
  have HBB := Lib.hid hB
  have HG := Lib.hid hgood
  have HV := Lib.hid hv
  clear hB hb6 hb7 hb0 hEa hina hgood hv
  go_enter Tryd.func25, Tryd.ntmps25
  go_upto_region 1 with fail
  rw [show (w0.alloc (.cells #[.int .i64 0, .int .i64 0, .int .i64 0, .int .i64 0, .int .i64 0, .int .i64 0, .int .i64 0, .string ⟨#[]⟩, .string ⟨#[]⟩, .string ⟨#[]⟩, .int .i64 0, .int .i64 0, .int .i64 0, .int .i64 0] 37)).alloc (.cells #[.int .i64 0, .int .i64 0, .int .i64 0, .int .i64 0, .int .i64 0, .int .i64 0, .int .i64 0, .int .i64 0, .int .i64 0] 31) = wa from HWA.out]
  go_wp2_with fail
  refine (started_any A T.length ci wa).mono ?_
  rintro e w1 ⟨p, r, q, rfl, hp, hpr, hpq, hrq, hbr, hbq, hbp, hbel⟩
  have hst := start_rdr A T ci E wa w1 p r q HEA.out HBB.out.isEof HINA.out HG.out (by omega) htc hp hpr hpq hrq hbr hbq hbp hbel
  have hlp := hst.pb.lt
  obtain ⟨rl, rpos, ip, eof, RL, BL, stt, hlay, _⟩ := hst.ex
  have hlr : r < w1.heap.size := hlay.rb.lt
  have hlq : q < w1.heap.size := hlay.qb.lt
  clear hlay
  have hat := pStart_at (.slice A T.length ci) (.slice (some ⟨r, 0, none⟩) 0 512) (.slice (some ⟨q, 0, none⟩) 0 1536)
  obtain ⟨L, HL⟩ : ∃ L, Hid (pStart (.slice A T.length ci) (.slice (some ⟨r, 0, none⟩) 0 512) (.slice (some ⟨q, 0, none⟩) 0 1536) = L) := ⟨_, rfl⟩
  rw [HL.out] at hst hat
  have hs1 := hbel.size
  have hL41 := start41 (.slice A T.length ci) (.slice (some ⟨r, 0, none⟩) 0 512) (.slice (some ⟨q, 0, none⟩) 0 1536)
  have hL36 := start36 (.slice A T.length ci) (.slice (some ⟨r, 0, none⟩) 0 512) (.slice (some ⟨q, 0, none⟩) 0 1536)
  have hL32 := start32 (.slice A T.length ci) (.slice (some ⟨r, 0, none⟩) 0 512) (.slice (some ⟨q, 0, none⟩) 0 1536)
  rw [HL.out] at hL41 hL36 hL32
  have hlen52 := hst.plen
  have hall : ∀ b, b ∈ (⟨r, q, A, T, ci, E⟩ : Kn).bs p → w0.heap.size + 2 ≤ b := by unfold Kn.bs; intro b hb; simp at hb; omega
  have HALL := Lib.hid hall
  have HST1 := Lib.hid hst
  have HAT1 := Lib.hid hat
  have HKW1 : Hid (Kp [] wa w1) := Kp.of_below hbel
  have HS1 := Lib.hid hs1
  clear hst hat hbr hbq hbp hbel hall
  go_wp2_with fail
  refine (stand_any p n L w1 HST1.out.pb hL41 hL36).mono ?_
  rintro e ws ⟨rfl, hps, hks, hss⟩
  have HSS := Lib.hid hss
  clear hss
  have hst : Rdr (⟨r, q, A, T, ci, E⟩ : Kn) p 0 0 0 0 ((L.set 41 (.int .i64 n)).set 36 (.int .i64 0)) ws := HST1.out.turn hps (by simp [hlen52]) hks (fun j hj => by rw [lset_ne (by omega), lset_ne (by omega)])
  have hS41 : ((L.set 41 (.int .i64 n)).set 36 (.int .i64 0))[41]? = some (.int .i64 n) := by rw [lset_ne (by omega), lset_at (by omega)]
  have hS32 : ((L.set 41 (.int .i64 n)).set 36 (.int .i64 0))[32]? = some (.slice none 0 0) := by rw [lset_ne (by omega), lset_ne (by omega)]; exact hL32
  have hS19 : ((L.set 41 (.int .i64 n)).set 36 (.int .i64 0))[19]? = some (.int .i64 0) := by rw [lset_ne (by omega), lset_ne (by omega)]; exact HAT1.out.a19
  have hS24 : ((L.set 41 (.int .i64 n)).set 36 (.int .i64 0))[24]? = some (.int .i64 0) := by rw [lset_ne (by omega), lset_ne (by omega)]; exact HAT1.out.a24
  have hS25 : ((L.set 41 (.int .i64 n)).set 36 (.int .i64 0))[25]? = some (.int .i64 0) := by rw [lset_ne (by omega), lset_ne (by omega)]; exact HAT1.out.a25
  have hS26 : ((L.set 41 (.int .i64 n)).set 36 (.int .i64 0))[26]? = some (.int .i64 0) := by rw [lset_ne (by omega), lset_ne (by omega)]; exact HAT1.out.a26
  have hSC : Sc.Cells ((L.set 41 (.int .i64 n)).set 36 (.int .i64 0)) := cells_low HAT1.out.cells (by simp [hlen52]) (fun j hj => by rw [lset_ne (by omega), lset_ne (by omega)])
  obtain ⟨LS, HLS⟩ : ∃ LS, Hid ((L.set 41 (.int .i64 n)).set 36 (.int .i64 0) = LS) := ⟨_, rfl⟩
  rw [HLS.out] at hst hS41 hS32 hS19 hS24 hS25 hS26 hSC
  obtain ⟨t, HTN⟩ : ∃ t : Nat, Hid (ws.heap.size = t) := ⟨_, rfl⟩
  obtain ⟨w2, HW2⟩ : ∃ w2 : World, Hid (ws.alloc (.cells tok0.toArray 78) = w2) := ⟨_, rfl⟩
  have hb2 : Below ws.heap.size ws w2 := by rw [← HW2.out]; exact (Below.refl _ _).alloc (Nat.le_refl _) _
  have hs2 : w2.heap.size = ws.heap.size + 1 := by rw [← HW2.out]; simp
  have ht2 : Bk w2 t 78 tok0 := by rw [← HW2.out, ← HTN.out]; exact Bk.new _ _ _
  have hst2 := rdr_new hst hb2
  have hft : Far (⟨r, q, A, T, ci, E⟩ : Kn) p t := far_new hst (by rw [← HTN.out]; exact Nat.le_refl _)
  have hk2 : Kp [p] wa w2 := ((HKW1.out.mono (by simp)).trans hks).trans (Kp.of_below hb2)
  have htb : w0.heap.size + 2 ≤ t := by rw [← HTN.out]; have := HS1.out; have := HSS.out; omega
  have HK2 := Lib.hid hk2
  have HT2 := Lib.hid ht2
  have HST2 := Lib.hid hst2
  have HFT := Lib.hid hft
  have HS41 := Lib.hid hS41
  have HS32 := Lib.hid hS32
  have HS19 := Lib.hid hS19
  have HS24 := Lib.hid hS24
  have HS25 := Lib.hid hS25
  have HS26 := Lib.hid hS26
  have HSC := Lib.hid hSC
  clear hst hst2 hb2 hft hk2 ht2 hps hks hS41 hS32 hS19 hS24 hS25 hS26 hSC hL41 hL36 hL32 HST1 HAT1
  go_wp2_with fail
  rw [show (ws.alloc (.cells #[.int .i64 0, .int .i64 0, .int .i64 0, .int .i64 0, .int .i64 0, .int .i64 0, .int .i64 0, .int .i64 0, .slice none 0 0, .slice none 0 0, .slice none 0 0, .int .i8 0, .int .i8 0, .int .i8 0] 78)) = w2 from HW2.out]
  have hrok : RoundOk (⟨r, q, A, T, ci, E⟩ : Kn) p := round_utf8 _ p HG.out
  refine (zcache_any (⟨r, q, A, T, ci, E⟩ : Kn) p 0 0 0 0 1 LS w2 hrok HST2.out (by omega) (by omega) (by have := HS1.out; have := HSS.out; omega)).mono ?_
  rintro e w3 ⟨rfl, u3, bp3, bl3, L3, hr3, hu3, _, _, ho3, hk3, hs3, _⟩
  obtain ⟨u4, rfl⟩ : ∃ v, u3 = v + 1 := ⟨u3 - 1, by omega⟩
  have ht3 := HT2.out.kp hk3 HFT.out.1
  have hat3 : At (⟨r, q, A, T, ci, E⟩ : Kn) p LS 0 (u4 + 1) 0 (x :: rest) w3 := ⟨⟨HBB.out.text, Nat.zero_le _⟩, HBB.out.ch, HBB.out.len, bp3, bl3, 0, 0, 0, L3, hr3, (ho3 24 (by unfold rdOff; omega)).trans HS24.out, (ho3 25 (by unfold rdOff; omega)).trans HS25.out, (ho3 26 (by unfold rdOff; omega)).trans HS26.out, (ho3 19 (by unfold rdOff; omega)).trans HS19.out, Nat.le_refl _, Nat.le_refl _, Nat.le_refl _, fun j h1 h2 h3 h4 h5 => ho3 j h1⟩
  have hfl := block_any (⟨r, q, A, T, ci, E⟩ : Kn) p t 0 u4 0 false n LS x rest _ w3 hrok hat3 HSC.out HS32.out HS41.out hn0 hn1 HV.out ht3 HFT.out (by have := HS1.out; have := HSS.out; omega)
  have hfl2 : Calls Tryd.prog 79 #[.pointer (some ⟨p, 0, none⟩), .pointer (some ⟨t, 0, none⟩), .bool true] w3 fun e w' => e = .returned (.bool false) ∧ Er (⟨r, q, A, T, ci, E⟩ : Kn) p w3 w' := hfl.mono fun e w' h => by
    rcases h with ⟨out2, sv, h1, _⟩ | ⟨h1, h2, h3⟩
    · cases h1
    · exact ⟨h2, h3⟩
  have hc := zblock_any _ _ _ _ (fun _ _ => True) _ _ hfl2
  have HC := Lib.hid hc
  have HK3 := Lib.hid hk3
  clear hc hr3 ho3 hk3 ht3 HST2 hat3 hfl hfl2 hrok HS41 HS32 HS19 HS24 HS25 HS26 HSC
  go_wp2_with fail
  rw [HTN.out]
  refine HC.out.mono ?_
  rintro e w4 ⟨rfl, L', hbL, hcL, h0L, hk4'⟩
  have hk4 := hk4'.mono (qs := t :: (⟨r, q, A, T, ci, E⟩ : Kn).bs p) (fun b hb => List.mem_cons_of_mem _ hb)
  have hkall : Kp (t :: (⟨r, q, A, T, ci, E⟩ : Kn).bs p) wa w4 := ((HK2.out.mono (fun b hb => by rw [List.mem_singleton] at hb; rw [hb]; exact List.mem_cons_of_mem _ (Kn.mp _ p))).trans (HK3.out.mono fun b hb => List.mem_cons_of_mem _ hb)).trans hk4
  have hlow : ∀ b, b ∈ t :: (⟨r, q, A, T, ci, E⟩ : Kn).bs p → w0.heap.size + 2 ≤ b := fun b hb => by
    rcases List.mem_cons.1 hb with rfl | hb
    · exact htb
    · exact HALL.out b hb
  have g6 := N4.out.kp hkall (fun hh => by have := hlow _ hh; omega)
  have g7 := N5.out.kp hkall (fun hh => by have := hlow _ hh; omega)
  have hbf4 := HBA.out.trans (hkall.below (B := w0.heap.size) (by omega) (fun b hb => by have := hlow b hb; omega))
  have G6 := Lib.hid g6
  have G7 := Lib.hid g7
  have HB4 := Lib.hid hbf4
  have HS4 := Lib.hid hkall.size
  have HBL := Lib.hid hbL
  have HCL := Lib.hid hcL
  have H0L := Lib.hid h0L
  clear hbL hcL h0L hk4 hk4' hkall hlow g6 g7 hbf4 HC HK3 HK2
  go_wp2_with fail
  (try rw [HTN.out])
  refine (scanned_bad p (.pointer (some ⟨t, 0, none⟩)) L' w4 HBL.out HCL.out H0L.out).mono ?_
  rintro e w5 ⟨⟨a0, a1, a2, b0, b1, b2, z2, z3, rfl⟩, hb5⟩
  have hk5 : Kp [] w4 w5 := Kp.of_below hb5
  have h6 := G6.out.kp hk5 (by simp)
  have h7 := G7.out.kp hk5 (by simp)
  have HBF := Lib.hid (HB4.out.trans (hb5.mono (by have := HS4.out; omega)))
  obtain ⟨e0, f0⟩ := at_ h6 0 rfl
  obtain ⟨e1, f1⟩ := at_ h6 1 rfl
  obtain ⟨e2, f2⟩ := at_ h6 2 rfl
  obtain ⟨e3, f3⟩ := at_ h6 3 rfl
  obtain ⟨e4, f4⟩ := at_ h6 4 rfl
  obtain ⟨e5, f5⟩ := at_ h6 5 rfl
  obtain ⟨e6, f6⟩ := at_ h6 6 rfl
  obtain ⟨e7, f7⟩ := at_ h6 7 rfl
  obtain ⟨e8, f8⟩ := at_ h6 8 rfl
  obtain ⟨e9, f9⟩ := at_ h6 9 rfl
  obtain ⟨e10, f10⟩ := at_ h6 10 rfl
  obtain ⟨e11, f11⟩ := at_ h6 11 rfl
  obtain ⟨e12, f12⟩ := at_ h6 12 rfl
  obtain ⟨e13, f13⟩ := at_ h6 13 rfl
  obtain ⟨c0, g0⟩ := at_ h7 0 rfl
  obtain ⟨c1, g1⟩ := at_ h7 1 rfl
  obtain ⟨c2, g2⟩ := at_ h7 2 rfl
  obtain ⟨c3, g3⟩ := at_ h7 3 rfl
  obtain ⟨c4, g4⟩ := at_ h7 4 rfl
  obtain ⟨c5, g5⟩ := at_ h7 5 rfl
  obtain ⟨c6, g6⟩ := at_ h7 6 rfl
  obtain ⟨c7, g7⟩ := at_ h7 7 rfl
  obtain ⟨c8, g8⟩ := at_ h7 8 rfl
  have H6 := Lib.hid h6
  have H7 := Lib.hid h7
  clear h6 h7 hb5 hk5 G6 G7 HB4 HBL HCL H0L HWA HW2 HLS HL
  (try unfold full)
  (try unfold nine)
  go_wp2_with fail
  clear e0 e1 e2 e3 e4 e5 e6 e7 e8 e9 e10 e11 e12 e13 f0 f1 f2 f3 f4 f5 f6 f7 f8 f9 f10 f11 f12 f13 c0 c1 c2 c3 c4 c5 c6 c7 c8 g0 g1 g2 g3 g4 g5 g6 g7 g8
  have ne1 : w0.heap.size ≠ w0.heap.size + 1 := by omega
  have ne2 : w0.heap.size + 1 ≠ w0.heap.size := by omega
  have h4 := (((((((((((((((((((((((H6.out.set 0 (.int .i64 0)).set 1 (.int .i64 0)).set 2 (.int .i64 0)).set 3 (.int .i64 0)).set 4 (.int .i64 0)).set 5 (.int .i64 0)).set 6 (.int .i64 0)).set 7 (.string (strOfNums []))).set 8 (.string (strOfNums []))).set 9 (.string (strOfNums []))).set 10 (.int .i64 (sty 0))).set 11 (.int .i64 0)).set 12 (.int .i64 0)).set 13 (.int .i64 0)).other (w0.heap.size + 1) 0 (.int .i64 2) ne1).other (w0.heap.size + 1) 1 (.int .i64 a0) ne1).other (w0.heap.size + 1) 2 (.int .i64 a1) ne1).other (w0.heap.size + 1) 3 (.int .i64 a2) ne1).other (w0.heap.size + 1) 4 (.int .i64 b0) ne1).other (w0.heap.size + 1) 5 (.int .i64 b1) ne1).other (w0.heap.size + 1) 6 (.int .i64 b2) ne1).other (w0.heap.size + 1) 7 (.int .i64 z2) ne1).other (w0.heap.size + 1) 8 (.int .i64 z3) ne1)
  have h5 := (((((((((((((((((((((((H7.out.other w0.heap.size 0 (.int .i64 0) ne2).other w0.heap.size 1 (.int .i64 0) ne2).other w0.heap.size 2 (.int .i64 0) ne2).other w0.heap.size 3 (.int .i64 0) ne2).other w0.heap.size 4 (.int .i64 0) ne2).other w0.heap.size 5 (.int .i64 0) ne2).other w0.heap.size 6 (.int .i64 0) ne2).other w0.heap.size 7 (.string (strOfNums [])) ne2).other w0.heap.size 8 (.string (strOfNums [])) ne2).other w0.heap.size 9 (.string (strOfNums [])) ne2).other w0.heap.size 10 (.int .i64 (sty 0)) ne2).other w0.heap.size 11 (.int .i64 0) ne2).other w0.heap.size 12 (.int .i64 0) ne2).other w0.heap.size 13 (.int .i64 0) ne2).set 0 (.int .i64 2)).set 1 (.int .i64 a0)).set 2 (.int .i64 a1)).set 3 (.int .i64 a2)).set 4 (.int .i64 b0)).set 5 (.int .i64 b1)).set 6 (.int .i64 b2)).set 7 (.int .i64 z2)).set 8 (.int .i64 z3))
  have hbf := (((((((((((((((((((((((HBF.out.setCell (p := ⟨w0.heap.size, 0, none⟩) (by simp) (.int .i64 0)).setCell (p := ⟨w0.heap.size, 1, none⟩) (by simp) (.int .i64 0)).setCell (p := ⟨w0.heap.size, 2, none⟩) (by simp) (.int .i64 0)).setCell (p := ⟨w0.heap.size, 3, none⟩) (by simp) (.int .i64 0)).setCell (p := ⟨w0.heap.size, 4, none⟩) (by simp) (.int .i64 0)).setCell (p := ⟨w0.heap.size, 5, none⟩) (by simp) (.int .i64 0)).setCell (p := ⟨w0.heap.size, 6, none⟩) (by simp) (.int .i64 0)).setCell (p := ⟨w0.heap.size, 7, none⟩) (by simp) (.string (strOfNums []))).setCell (p := ⟨w0.heap.size, 8, none⟩) (by simp) (.string (strOfNums []))).setCell (p := ⟨w0.heap.size, 9, none⟩) (by simp) (.string (strOfNums []))).setCell (p := ⟨w0.heap.size, 10, none⟩) (by simp) (.int .i64 (sty 0))).setCell (p := ⟨w0.heap.size, 11, none⟩) (by simp) (.int .i64 0)).setCell (p := ⟨w0.heap.size, 12, none⟩) (by simp) (.int .i64 0)).setCell (p := ⟨w0.heap.size, 13, none⟩) (by simp) (.int .i64 0)).setCell (p := ⟨(w0.heap.size + 1), 0, none⟩) (by simp) (.int .i64 2)).setCell (p := ⟨(w0.heap.size + 1), 1, none⟩) (by simp) (.int .i64 a0)).setCell (p := ⟨(w0.heap.size + 1), 2, none⟩) (by simp) (.int .i64 a1)).setCell (p := ⟨(w0.heap.size + 1), 3, none⟩) (by simp) (.int .i64 a2)).setCell (p := ⟨(w0.heap.size + 1), 4, none⟩) (by simp) (.int .i64 b0)).setCell (p := ⟨(w0.heap.size + 1), 5, none⟩) (by simp) (.int .i64 b1)).setCell (p := ⟨(w0.heap.size + 1), 6, none⟩) (by simp) (.int .i64 b2)).setCell (p := ⟨(w0.heap.size + 1), 7, none⟩) (by simp) (.int .i64 z2)).setCell (p := ⟨(w0.heap.size + 1), 8, none⟩) (by simp) (.int .i64 z3))
  have k0 := at_ h4 0 rfl
  have k1 := at_ h4 1 rfl
  have k2 := at_ h4 2 rfl
  have k3 := at_ h4 3 rfl
  have k4 := at_ h4 4 rfl
  have k5 := at_ h4 5 rfl
  have k6 := at_ h4 6 rfl
  have k7 := at_ h4 7 rfl
  have k8 := at_ h4 8 rfl
  have k9 := at_ h4 9 rfl
  have k10 := at_ h4 10 rfl
  have k11 := at_ h4 11 rfl
  have k12 := at_ h4 12 rfl
  have k13 := at_ h4 13 rfl
  have c0 := at_ h5 0 rfl
  have c1 := at_ h5 1 rfl
  have c2 := at_ h5 2 rfl
  have c3 := at_ h5 3 rfl
  have c4 := at_ h5 4 rfl
  have c5 := at_ h5 5 rfl
  have c6 := at_ h5 6 rfl
  have c7 := at_ h5 7 rfl
  have c8 := at_ h5 8 rfl
  (try simp only [Exit.inBlock, Exit.then])
  refine bodyPost_ret (by simp [results, Tryd.results25, k0.1, k1.1, k2.1, k3.1, k4.1, k5.1, k6.1, k7.1, k8.1, k9.1, k10.1, k11.1, k12.1, k13.1, c0.1, c1.1, c2.1, c3.1, c4.1, c5.1, c6.1, c7.1, c8.1, go_sem]; try rfl) rfl ?_
  exact ⟨⟨a0, a1, a2, b0, b1, b2, z2, z3, rfl⟩, hbf⟩
end Go.Proofs.YtocbbekciphjgaaDoor.Bs
