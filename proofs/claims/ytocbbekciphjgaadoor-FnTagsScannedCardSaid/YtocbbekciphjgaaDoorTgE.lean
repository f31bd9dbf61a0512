/- A tag is scanned (yaml_parser_scan_tag): the walk. Printed by genTgE.py. -/
import Derived.Test.YtocbbekciphjgaaDoorTgD
namespace Go.Proofs.YtocbbekciphjgaaDoor.Sc
open Go.RowKit Go.Proofs.YtocbbekciphjgaaDoor.Rdp Go.Proofs.YtocbbekciphjgaaDoor.Pa
set_option linter.unusedVariables false
set_option linter.unusedSimpArgs false
theorem adv_asc {T : List Int} (h : ∀ i, cw (S T i) = 1) (c : Nat) : ∀ n, adv T c n = c + n
  | 0 => rfl
  | n + 1 => by
    have e : adv T c (n + 1) = nx T (adv T c n) := rfl
    rw [e, adv_asc h c n]
    unfold nx
    rw [h]
    omega
/-- So many characters have been counted, where so many bytes lie ready. -/
theorem Rdr.count {k : Kn} {p c u bp bl : Nat} {L : List Value} {w : World} (h : Rdr k p c u bp bl L w) (hasc : ∀ i, cw (S k.T i) = 1) (m : Nat) (hm : m ≤ bl - bp) (hc : c + m ≤ k.T.length) : m ≤ u := by
  obtain ⟨rl, rpos, ip, eof, RL, BL, st, hl, _, hA⟩ := h.ex
  have ha := adv_asc hasc c u
  rcases hA with ⟨hA, _⟩ | ⟨hB, _⟩
  · have := hA.at1; have := hA.at2; omega
  · have := hB.cov; omega
/-- What a tag is, by its bytes: N of them, its handle and what is behind it. -/
inductive Way (T : List Int) (c : Nat) : Nat → List Int → List Int → Prop
  | verb (n : Nat) : S T (c + 1) = 60 → 1 ≤ n → n ≤ 12 → (∀ i, i < n → Al.al (S T (c + 1 + 1 + i)) = true ∨ S T (c + 1 + 1 + i) = 58) → S T (c + 1 + 1 + n) = 62 → Way T c (3 + n) [] ((List.range n).map fun j => S T (c + 1 + 1 + j))
  | hand (m n : Nat) : S T (c + 1) ≠ 60 → S T c = 33 → (∀ i, i < m → Al.al (S T (c + (1 + i))) = true) → m ≤ 8 → S T (c + (1 + m)) = 33 → 1 ≤ n → n ≤ 8 → (∀ i, i < n → Al.al (S T (c + (2 + m) + i)) = true) → Way T c (2 + m + n) ((List.range (2 + m)).map fun j => S T (c + j)) ((List.range n).map fun j => S T (c + (2 + m) + j))
  | bare (m : Nat) : S T (c + 1) ≠ 60 → S T c = 33 → (∀ i, i < m → Al.al (S T (c + (1 + i))) = true) → 1 ≤ m → m ≤ 8 → Way T c (1 + m) [33] ((List.range m).map fun j => S T (c + (1 + j)))
  | sign : S T (c + 1) ≠ 60 → S T c = 33 → Way T c 1 [] [33]
/-- What the two ways through it leave. -/
structure Tagged (k : Kn) (p c N mi mc hk sk lo : Nat) (lh ls : List Int) (L : List Value) (w0 w : World) : Prop where
  ex : ∃ vh vs, Bk w hk 22 [vh] ∧ Bk w sk 22 [vs] ∧ Fresh lo w vh lh ∧ Fresh lo w vs ls
  go : Gone k p c N mi mc L (hk :: sk :: k.bs p) w0 w
theorem blank_al {x : Int} (h : x = 0 ∨ x = 9 ∨ x = 10 ∨ x = 13 ∨ x = 32) : Al.al x = false ∧ isBlankz x = true ∧ 0 ≤ x ∧ x < 128 ∧ x ≠ 33 ∧ (x = 0 ∨ x = 9 ∨ x = 10 ∨ x = 13 ∨ x = 32 ∨ x = 62) := by
  rcases h with rfl | rfl | rfl | rfl | rfl <;> exact ⟨rfl, rfl, by omega, by omega, by omega, by omega⟩
set_option maxHeartbeats 32000000 in
set_option maxRecDepth 100000 in
theorem tag_any (k : Kn) (p c u bp bl mi ml mc t N : Nat) (z : Int) (lh ls : List Int) (L : List Value) (w : World) (hr : RoundOk k p) (h : Rdr k p c u bp bl L w) (h24 : L[24]? = some (.int .i64 (mi : Nat))) (h25 : L[25]? = some (.int .i64 (ml : Nat))) (h26 : L[26]? = some (.int .i64 (mc : Nat))) (h19 : L[19]? = some (.int .i64 z)) (hmi : mi ≤ 100000) (hmc : mc ≤ 100000)
    (hasc : ∀ i, cw (S k.T i) = 1) (hw : Way k.T c N lh ls) (hN : N ≤ 100) (hxb : S k.T (c + N) = 0 ∨ S k.T (c + N) = 9 ∨ S k.T (c + N) = 10 ∨ S k.T (c + N) = 13 ∨ S k.T (c + N) = 32)
    (ht : Bk w t 78 tok0) (hft : Far k p t) (hg : 2 < w.heap.size) :
    Calls Tryd.prog 71 #[.pointer (some ⟨p, 0, none⟩), .pointer (some ⟨t, 0, none⟩)] w fun e w' => e = .returned (.bool true) ∧ ∃ vh vs, Bk w' t 78 (tok 20 mi ml mc (mi + N : Nat) ml (mc + N : Nat) 0 vh vs (.slice none 0 0) 0 0 0) ∧ Fresh w.heap.size w' vh lh ∧ Fresh w.heap.size w' vs ls ∧ Kp (t :: k.bs p) w w' := by
  have hfg : ∀ g, w.heap.size ≤ g → Far k p g := fun g hg => far_new h hg
  have htl := ht.lt
  have hpl := h.pb.lt
  obtain ⟨hk, HHK⟩ : ∃ hk : Nat, Hid (w.heap.size = hk) := ⟨_, rfl⟩
  obtain ⟨sk, HSK⟩ : ∃ sk : Nat, Hid (w.heap.size + 1 = sk) := ⟨_, rfl⟩
  obtain ⟨mk, HMK⟩ : ∃ mk : Nat, Hid (w.heap.size + 2 = mk) := ⟨_, rfl⟩
  have hks : w.heap.size = hk ∧ w.heap.size + 1 = sk ∧ w.heap.size + 2 = mk := ⟨HHK.out, HSK.out, HMK.out⟩
  obtain ⟨wa, HWA⟩ : ∃ wa : World, Hid (((w.alloc (.cells #[.slice none 0 0] 22)).alloc (.cells #[.slice none 0 0] 22)).alloc (.cells #[.int .i64 mi, .int .i64 ml, .int .i64 mc] 74) = wa) := ⟨_, rfl⟩
  have hba : Below w.heap.size w wa := by rw [← HWA.out]; exact (((Below.refl _ _).alloc (Nat.le_refl _) _).alloc (by simp) _).alloc (by simp; omega) _
  have hsa : wa.heap.size = w.heap.size + 3 := by rw [← HWA.out]; simp
  have hbh : Bk wa hk 22 [.slice none 0 0] := by rw [← HWA.out, ← HHK.out]; exact ((Bk.new w _ 22).alloc _).alloc _
  have hbs : Bk wa sk 22 [.slice none 0 0] := by
    have := Bk.new (w.alloc (.cells #[.slice none 0 0] 22)) [.slice none 0 0] 22
    simp only [World.size_alloc] at this
    rw [← HWA.out, ← HSK.out]
    exact this.alloc _
  have hbm : Bk wa mk 74 (tri mi ml mc) := by
    have := Bk.new ((w.alloc (.cells #[.slice none 0 0] 22)).alloc (.cells #[.slice none 0 0] 22)) (tri mi ml mc) 74
    simp only [World.size_alloc] at this
    rw [← HWA.out, ← HMK.out]
    exact this
  have hra : Rdr k p c u bp bl L wa := rdr_new h hba
  have hta : Bk wa t 78 tok0 := ht.kp (Kp.of_below (ps := []) hba) (by simp)
  have hu541 := rdr_u hra
  have hgw : 2 < wa.heap.size := by omega
  obtain ⟨ei, HEI⟩ : ∃ x : Int, Hid (((mi + N : Nat) : Int) = x) := ⟨_, rfl⟩
  obtain ⟨ec, HEC⟩ : ∃ x : Int, Hid (((mc + N : Nat) : Int) = x) := ⟨_, rfl⟩
  rw [HEI.out, HEC.out]
  obtain ⟨c24, f24⟩ := at_ h.pb 24 h24
  obtain ⟨c25, f25⟩ := at_ h.pb 25 h25
  obtain ⟨c26, f26⟩ := at_ h.pb 26 h26
  have n1 : ¬ p = w.heap.size := by omega
  have n2 : ¬ w.heap.size = p := by omega
  have n3 : ¬ p = w.heap.size + 1 := by omega
  have n4 : ¬ w.heap.size + 1 = p := by omega
  have HFG := Lib.hid hfg
  have HBA := Lib.hid hba
  have HBH := Lib.hid hbh
  have HBS := Lib.hid hbs
  have HBM := Lib.hid hbm
  have HRA := Lib.hid hra
  have HTA := Lib.hid hta
  have HR := Lib.hid hr
  have H24 := Lib.hid h24
  have H25 := Lib.hid h25
  have H26 := Lib.hid h26
  have H19 := Lib.hid h19
  have HASC := Lib.hid hasc
  have HXB := Lib.hid hxb
  have HFT := Lib.hid hft
  have HW := Lib.hid hw
  have HKS := Lib.hid hks
  have H := Lib.hid h
  clear h hr h24 h25 h26 h19 hasc hxb ht hft hfg hba hbh hbs hbm hra hta hw hks
  go_enter Tryd.func71, Tryd.ntmps71
  try simp only [List.append]
  go_upto_region 3 with fail
  clear c24 f24 c25 f25 c26 f26 n1 n2 n3 n4
  rw [show ((w.alloc (.cells #[.slice none 0 0] 22)).alloc (.cells #[.slice none 0 0] 22)).alloc (.cells #[.int .i64 mi, .int .i64 ml, .int .i64 mc] 74) = wa from HWA.out]
  (try simp only [show w.heap.size + 1 + 1 = w.heap.size + 2 from rfl])
  rw [HMK.out, HSK.out, HHK.out]
  obtain ⟨c18, f18⟩ := at_ HRA.out.pb 18 HRA.out.at18
  obtain ⟨ub, hub, HUB2⟩ : ∃ b : Bool, decide ((u : Int) < 2) = b ∧ Hid (b = false → 2 ≤ u) := ⟨_, rfl, Lib.hid fun h => by simp at h; omega⟩
  go_cut [22] from 13 to 22 (fun s22 wx => s22 = .bool false ∧ ∃ u' bp' bl' L', Rdr k p c u' bp' bl' L' wx ∧ 1 ≤ u' ∧ 2 ≤ bl' - bp' ∧ L'[24]? = some (.int .i64 (mi : Nat)) ∧ L'[26]? = some (.int .i64 (mc : Nat)) ∧ L'[19]? = some (.int .i64 z) ∧ (∀ j, rdOff j → L'[j]? = L[j]?) ∧ Kp (k.bs p) wa wx)
  case first =>
    cases ub with
    | false =>
      have hu2 := HUB2.out rfl
      go_wp2_with fail
      go_meet
      case rel =>
        have h1 := HRA.out.ready 2 hu2
        have h2 := adv_ge k.T c 2
        exact ⟨rfl, u, bp, bl, L, HRA.out, by omega, by omega, H24.out, H26.out, H19.out, fun _ _ => rfl, Kp.refl _ _⟩
    | true =>
      go_wp2_with fail
      refine (ub_any k p c u bp bl 2 L wa HR.out HRA.out (by omega) (by omega) hgw).mono ?_
      rintro e w3 ⟨rfl, hupd⟩
      have HU := Lib.hid hupd
      clear hupd
      go_wp2_with fail
      go_meet
      case rel =>
        obtain ⟨u', bp', bl', L', q1, q2, q3, q4, q5, q6, q7⟩ := HU.out
        exact ⟨rfl, u', bp', bl', L', q1, q2, q4, (q5 24 (by unfold rdOff; omega)).trans H24.out, (q5 26 (by unfold rdOff; omega)).trans H26.out, (q5 19 (by unfold rdOff; omega)).trans H19.out, q5, q6⟩
  case rest =>
    obtain ⟨rfl, u1, bp1, bl1, L1, hr1, hu1, hb2, h241, h261, h191, ho1, hk1⟩ := hcut
    clear hub c18 f18
    have hsm1 := hr1.small
    have hv541 := rdr_u hr1
    have hsz1 := hk1.size
    obtain ⟨y1, HY1⟩ : ∃ y, Hid (S k.T (c + 1) = y) := ⟨_, rfl⟩
    have hby1 := hr1.byte 1 (by omega)
    rw [HY1.out] at hby1
    obtain ⟨c16, f16⟩ := at_ hr1.pb 16 hr1.at16
    obtain ⟨c17, f17⟩ := at_ hr1.pb 17 hr1.at17
    have j1 : (bp1 : Int) + 1 < (bl1 : Int) := by omega
    have j0 : (0 : Int) ≤ (bp1 : Int) + 1 := by omega
    have j2 : (bp1 : Int) + 1 ≤ 9223372036854775807 := by omega
    have hbh1 := HBH.out.kp hk1 (HFG.out hk (by have := HKS.out; omega)).1
    have hbs1 := HBS.out.kp hk1 (HFG.out sk (by have := HKS.out; omega)).1
    have hbm1 := HBM.out.kp hk1 (HFG.out mk (by have := HKS.out; omega)).1
    have HR1 := Lib.hid hr1
    have H241 := Lib.hid h241
    have H261 := Lib.hid h261
    have H191 := Lib.hid h191
    have HO1 := Lib.hid ho1
    have HK1 := Lib.hid hk1
    have HBH1 := Lib.hid hbh1
    have HBS1 := Lib.hid hbs1
    have HBM1 := Lib.hid hbm1
    clear hr1 h241 h261 h191 ho1 hk1 hbh1 hbs1 hbm1 HRA H19 HBH HBS
    go_wp2_with fail
    go_quiet (fail)
    obtain ⟨wb, HWB⟩ : ∃ wb : World, Hid (wc.drewN nq = wb) := ⟨_, rfl⟩
    rw [HWB.out]
    have hrb : Rdr k p c u1 bp1 bl1 L1 wb := by rw [← HWB.out]; exact HR1.out.drewN nq
    have hkb : Kp (k.bs p) wa wb := by rw [← HWB.out]; exact HK1.out.drewN nq
    have hbhb : Bk wb hk 22 [.slice none 0 0] := by rw [← HWB.out]; exact HBH1.out
    have hbsb : Bk wb sk 22 [.slice none 0 0] := by rw [← HWB.out]; exact HBS1.out
    have hbmb : Bk wb mk 74 (tri mi ml mc) := by rw [← HWB.out]; exact HBM1.out
    have hszb := hkb.size
    have HRB := Lib.hid hrb
    have HKB := Lib.hid hkb
    have HBHB := Lib.hid hbhb
    have HBSB := Lib.hid hbsb
    have HBMB := Lib.hid hbmb
    clear hrb hkb hbhb hbsb hbmb HR1 HK1 HBH1 HBS1 HBM1 HWB c16 f16 c17 f17 hby1 j0 j1 j2
    go_upto_if 34 with fail
    go_cut [34] from 34 to 95 (fun _ wx => Tagged k p c N mi mc hk sk wa.heap.size lh ls L wa wx)
    case first =>
      have hxb := HXB.out
      obtain ⟨x1, x2, x3, x4, x5, x6⟩ := blank_al hxb
      have hw := HW.out
      have m0 := (at_ HBMB.out 0 rfl).1
      have m1 := (at_ HBMB.out 1 rfl).1
      have m2 := (at_ HBMB.out 2 rfl).1
      have hmk : mk ∉ k.bs p := (HFG.out mk (by have := HKS.out; omega)).1
      have hfh : Far k p hk := HFG.out hk (by have := HKS.out; omega)
      have hfs : Far k p sk := HFG.out sk (by have := HKS.out; omega)
      have hhs : hk ≠ sk ∧ hk ≠ mk ∧ sk ≠ mk := by have := HKS.out; omega
      have HMKN := Lib.hid hmk
      have HFH := Lib.hid hfh
      have HFS := Lib.hid hfs
      have HHS := Lib.hid hhs
      have X1 := Lib.hid x1
      have X3 := Lib.hid x3
      have X4 := Lib.hid x4
      have X5 := Lib.hid x5
      have X6 := Lib.hid x6
      clear hxb x1 x2 x3 x4 x5 x6 hmk hfh hfs hhs
      cases hw with
      | verb n w1 w2 w3 w4 w5 =>
        rw [HY1.out] at w1
        have hy : (y1 == 60) = true := by rw [beq_iff_eq]; exact w1
        have hct : c + 2 ≤ k.T.length := by
          apply Classical.byContradiction
          intro hh
          have := HY1.out
          rw [S_out (by omega)] at this
          omega
        have hu2 := Rdr.count HRB.out HASC.out 2 hb2 hct
        obtain ⟨q, rfl⟩ : ∃ q, u1 = q + 1 + 1 := ⟨u1 - 2, by omega⟩
        have W4 := Lib.hid w4
        have W5 := Lib.hid w5
        clear w1 w4 w5 hct hu2
        go_wp2_with fail
        refine (skip_any k p c (q + 1) bp1 bl1 mi mc z L1 wb HRB.out H241.out H261.out H191.out (by omega) (by omega) (by omega)).mono ?_
        rintro e w2' ⟨rfl, hsk⟩
        obtain ⟨L2, hr2, h242, h262, ⟨z2, h192⟩, ho2⟩ := hsk.ex
        rw [show nx k.T c = c + 1 by unfold nx; rw [HASC.out]] at hr2
        have hkp2 : Kp [p] wb w2' := hsk.kp
        have hs2 : w2'.heap.size = wb.heap.size := hsk.size
        have HR2 := Lib.hid hr2
        have H242 := Lib.hid h242
        have H262 := Lib.hid h262
        have H192 := Lib.hid h192
        have HO2 := Lib.hid ho2
        have HKP2 := Lib.hid hkp2
        clear hsk hr2 h242 h262 h192 ho2 hkp2 m0 m1 m2
        go_wp2_with fail
        refine (skip_any k p (c + 1) q _ bl1 (mi + 1) (mc + 1) z2 L2 w2' HR2.out H242.out H262.out H192.out (by omega) (by omega) (by omega)).mono ?_
        rintro e w3' ⟨rfl, hsk⟩
        obtain ⟨L3, hr3, h243, h263, ⟨z3, h193⟩, ho3⟩ := hsk.ex
        rw [show nx k.T (c + 1) = c + 1 + 1 by unfold nx; rw [HASC.out]] at hr3
        have hkp3 : Kp [p] wb w3' := HKP2.out.trans hsk.kp
        have hs3 : w3'.heap.size = w2'.heap.size := hsk.size
        have hpm : p ≠ mk ∧ p ≠ sk ∧ p ≠ hk := by have := HKS.out; have := H.out.pb.lt; omega
        have hm3 := HBMB.out.kp hkp3 (by simp; exact fun e => hpm.1 e.symm)
        have hh3 := HBHB.out.kp hkp3 (by simp; exact fun e => hpm.2.2 e.symm)
        have hss3 := HBSB.out.kp hkp3 (by simp; exact fun e => hpm.2.1 e.symm)
        have m0 := (at_ hm3 0 rfl).1
        have m1 := (at_ hm3 1 rfl).1
        have m2 := (at_ hm3 2 rfl).1
        have hkk3 : Kp (hk :: sk :: k.bs p) wa w3' := (HKB.out.trans (kp_sub hkp3)).mono fun b hb => List.mem_cons_of_mem _ (List.mem_cons_of_mem _ hb)
        have ho4 : ∀ j, rdOff j → j ≠ 19 → j ≠ 24 → j ≠ 26 → L3[j]? = L[j]? := fun j j1 j2 j3 j4 => by
          rw [ho3 j (by unfold rdOff at j1; omega) (by unfold rdOff at j1; omega) j2 j3 j4, HO2.out j (by unfold rdOff at j1; omega) (by unfold rdOff at j1; omega) j2 j3 j4]
          exact HO1.out j j1
        have hg3 : 2 < w3'.heap.size := by omega
        have HR3 := Lib.hid hr3
        have H243 := Lib.hid h243
        have H263 := Lib.hid h263
        have H193 := Lib.hid h193
        have HO4 := Lib.hid ho4
        have HKK3 := Lib.hid hkk3
        have HH3 := Lib.hid hh3
        have HS3 := Lib.hid hss3
        clear hsk hr3 h243 h263 h193 ho3 ho4 hkp3 hm3 hh3 hss3 hkk3 HR2 HO2 HKP2
        go_wp2_with fail
        refine (uri_any k p (c + 1 + 1) q _ bl1 (mi + 1 + 1) (mc + 1 + 1) sk n 0 0 none z3 62 mi ml mc (.slice none 0 0) [] false false L3 w3' HR.out HR3.out H243.out H263.out H193.out (by omega) (by omega) (by simp) (by simp) (by simp) (by simp) (fun e => by cases e) (fun _ => rfl) (.inr w2) (.inr rfl) w3 W4.out W5.out rfl (by omega) (by omega) (by omega) HS3.out HFS.out hg3).mono ?_
        rintro e w4 ⟨rfl, vs, hs4, hf4, ⟨⟨u4, bp4, bl4, L4, hr4, hu4, h244, h264, ⟨z4, h194⟩, ho5⟩, hk4⟩⟩
        have hh4 : Bk w4 hk 22 [.slice none 0 0] := HH3.out.kp hk4 (by simp; exact ⟨HHS.out.1, HFH.out.1⟩)
        have hrd4 := hr4.ready 1 hu4
        have hsm4 := hr4.small
        have hge4 := adv_ge k.T (c + 1 + 1 + n) 1
        have hby := hr4.byte 0 (by omega)
        rw [Nat.add_zero, Nat.add_zero, W5.out] at hby
        obtain ⟨c16, f16⟩ := at_ hr4.pb 16 hr4.at16
        obtain ⟨c17, f17⟩ := at_ hr4.pb 17 hr4.at17
        have i1 : (bp4 : Int) < (bl4 : Int) := by omega
        have i0 : (0 : Int) ≤ (bp4 : Int) := by omega
        have hv4 := rdr_u hr4
        obtain ⟨q4, rfl⟩ : ∃ q, u4 = q + 1 := ⟨u4 - 1, by omega⟩
        have hsz4 := hk4.size
        have HS4 := Lib.hid hs4
        have HF4 := Lib.hid hf4
        have HR4 := Lib.hid hr4
        have H244 := Lib.hid h244
        have H264 := Lib.hid h264
        have H194 := Lib.hid h194
        have HO5 := Lib.hid ho5
        have HK4 := Lib.hid hk4
        have HH4 := Lib.hid hh4
        clear hs4 hf4 hr4 h244 h264 h194 ho5 hk4 hh4 hrd4 hge4 m0 m1 m2
        go_wp2_with fail
        go_quiet (fail)
        go_wp2_with fail
        refine (skip_any k p (c + 1 + 1 + n) q4 bp4 bl4 (mi + 1 + 1 + n) (mc + 1 + 1 + n) z4 L4 _ (HR4.out.drewN _) H244.out H264.out H194.out (by omega) (by omega) (by omega)).mono ?_
        rintro e w5' ⟨rfl, hsk⟩
        obtain ⟨L5, hr5, h245, h265, ⟨z5, h195⟩, ho6⟩ := hsk.ex
        rw [show nx k.T (c + 1 + 1 + n) = c + 1 + 1 + n + 1 by unfold nx; rw [HASC.out]] at hr5
        have hkp5 : Kp [p] w4 w5' := ((Kp.refl _ w4).drewN _).trans hsk.kp
        have HR5 := Lib.hid hr5
        have H245 := Lib.hid h245
        have H265 := Lib.hid h265
        have H195 := Lib.hid h195
        have HO6 := Lib.hid ho6
        have HKP5 := Lib.hid hkp5
        clear hsk hr5 h245 h265 h195 ho6 hkp5 c16 f16 c17 f17 hby
        go_wp2_with fail
        go_meet
        case rel =>
          have hpm : p ≠ sk ∧ p ≠ hk := by have := HKS.out; have := H.out.pb.lt; omega
          have hpw : ∀ b, wa.heap.size ≤ b → b ∉ [p] := fun b hb => by have := H.out.pb.lt; simp; omega
          refine ⟨⟨_, vs, HH4.out.kp HKP5.out (by simp; exact fun e => hpm.2 e.symm), HS4.out.kp HKP5.out (by simp; exact fun e => hpm.1 e.symm), .inl ⟨rfl, rfl⟩, ?_⟩, ⟨⟨q4, bp4 + cw (S k.T (c + 1 + 1 + n)), bl4, L5, ?_, ?_, ?_, ⟨z5, H195.out⟩, fun j j1 j2 j3 j4 => ?_⟩, ?_⟩⟩
          · have := HF4.out.low (lo2 := wa.heap.size) (by omega)
            rw [List.nil_append] at this
            exact this.kp HKP5.out hpw
          · rw [show c + (3 + n) = c + 1 + 1 + n + 1 by omega]; exact HR5.out
          · rw [show mi + (3 + n) = mi + 1 + 1 + n + 1 by omega]; exact H245.out
          · rw [show mc + (3 + n) = mc + 1 + 1 + n + 1 by omega]; exact H265.out
          · rw [HO6.out j (by unfold rdOff at j1; omega) (by unfold rdOff at j1; omega) j2 j3 j4]
            exact (HO5.out j j1 j2 j3 j4).trans (HO4.out j j1 j2 j3 j4)
          · exact (HKK3.out.trans (HK4.out.mono fun b hb => by simp only [List.mem_cons] at hb ⊢; rcases hb with h | h; exact .inr (.inl h); exact .inr (.inr h))).trans ((kp_sub HKP5.out).mono fun b hb => List.mem_cons_of_mem _ (List.mem_cons_of_mem _ hb))
      | hand m n w1' w2 w3 w4 w5 w6 w7 w8 =>
        rw [HY1.out] at w1'
        have W5 := Lib.hid w5
        have W8 := Lib.hid w8
        clear w5 w8
        obtain ⟨q, rfl⟩ : ∃ q, u1 = q + 1 := ⟨u1 - 1, by omega⟩
        have hy : (y1 == 60) = false := by rw [beq_eq_false_iff_ne]; exact w1'
        have W3 := Lib.hid w3
        have W2 := Lib.hid w2
        clear w1' w2 w3
        go_wp2_with fail
        refine (handle_any k p c q bp1 bl1 mi mc hk m (2 + m) z 33 mi ml mc (.slice none 0 0) L1 wb HR.out HRB.out H241.out H261.out H191.out (by omega) (by omega) W2.out W3.out (by omega) W5.out rfl (by omega) (by omega) (.inl ⟨rfl, rfl⟩) HBHB.out HFH.out (by omega)).mono ?_
        rintro e w2' ⟨rfl, v, hh2, hv2, ⟨⟨u2, bp2, bl2, L2, hr2, h242, h262, ⟨z2, h192⟩, ho2⟩, hk2⟩⟩
        obtain ⟨g, G, rfl, hglo, hg1, hgb, hgl, hgv, hgy⟩ : ∃ g G, v = .slice (some ⟨g, 0, none⟩) ((2 + m)) 32 ∧ wb.heap.size ≤ g ∧ 1 ≤ (2 + m) ∧ Bk w2' g 5 G ∧ G.length = 32 ∧ (∀ j, j < (2 + m) → G[j]? = some (.int .u8 (S k.T (c + j)))) ∧ ∀ j, j < 32 → ∃ y, G[j]? = some (.int .u8 y) := by
          rcases hv2 with ⟨h0, _⟩ | h
          · omega
          · exact h
        have hm2 := HBMB.out.kp hk2 (by simp; exact ⟨fun e => HHS.out.2.1 e.symm, HMKN.out⟩)
        have hs2 := HBSB.out.kp hk2 (by simp; exact ⟨fun e => HHS.out.1 e.symm, HFS.out.1⟩)
        have hheld : Held k.T wb.heap.size c (2 + m) (.slice (some ⟨g, 0, none⟩) ((2 + m)) 32) w2' := .inr ⟨g, G, rfl, hglo, hg1, hgb, hgl, hgv, hgy⟩
        have q0 : w2'.cell? ⟨g, 0, none⟩ = some (.int .u8 33) := by rw [(at_ hgb 0 (hgv 0 (by omega))).1, Nat.add_zero, W2.out]
        have q1 : w2'.cell? ⟨g, m + 1, none⟩ = some (.int .u8 33) := by rw [(at_ hgb (m + 1) (hgv (m + 1) (by omega))).1, show c + (m + 1) = c + (1 + m) by omega, W5.out]
        have e1 : ((2 + m : Nat) : Int) - 1 = ((m + 1 : Nat) : Int) := by omega
        have e2 : decide ((1 : Int) < 2 + (m : Int)) = true := by simp; omega
        have e3 : (2 : Int) + (m : Int) - 1 = (m : Int) + 1 := by omega
        have e4 : (0 : Int) < 2 + (m : Int) := by omega
        have e5 : (m : Int) + 1 < 2 + (m : Int) := by omega
        have e6 : (0 : Int) ≤ (m : Int) + 1 := by omega
        obtain ⟨ch, fh⟩ := at_ hh2 0 rfl
        have m0 := (at_ hm2 0 rfl).1
        have m1 := (at_ hm2 1 rfl).1
        have m2 := (at_ hm2 2 rfl).1
        have hsz2 := hk2.size
        have hg2 : 2 < w2'.heap.size := by omega
        have ho3 : ∀ j, rdOff j → j ≠ 19 → j ≠ 24 → j ≠ 26 → L2[j]? = L[j]? := fun j j1 j2 j3 j4 => (ho2 j j1 j2 j3 j4).trans (HO1.out j j1)
        have hkk2 : Kp (hk :: sk :: k.bs p) wa w2' := (HKB.out.mono fun b hb => List.mem_cons_of_mem _ (List.mem_cons_of_mem _ hb)).trans (hk2.mono fun b hb => by simp only [List.mem_cons] at hb ⊢; rcases hb with h | h; exact .inl h; exact .inr (.inr h))
        have HELD := Lib.hid hheld
        have HR2 := Lib.hid hr2
        have H242 := Lib.hid h242
        have H262 := Lib.hid h262
        have H192 := Lib.hid h192
        have HO3 := Lib.hid ho3
        have HKK2 := Lib.hid hkk2
        have HH2 := Lib.hid hh2
        have HS2 := Lib.hid hs2
        have HGB := Lib.hid hgb
        have HGV := Lib.hid hgv
        clear hheld hr2 h242 h262 h192 ho2 ho3 hk2 hkk2 hh2 hs2 hgb hgv hm2 hv2 hgy hgl
        go_wp2_with fail
        refine (uri_any k p (c + (2 + m)) u2 bp2 bl2 (mi + (2 + m)) (mc + (2 + m)) sk n 0 0 none z2 (S k.T (c + (2 + m + n))) mi ml mc (.slice none 0 0) [] false false L2 w2' HR.out HR2.out H242.out H262.out H192.out (by omega) (by omega) (by simp) (by simp) (by simp) (by simp) (fun e => by cases e) (fun _ => rfl) (.inr w6) (.inr rfl) (by omega) (fun i hi => .inl (W8.out i hi)) (by rw [show c + (2 + m) + n = c + (2 + m + n) by omega]) X1.out X3.out X4.out X6.out HS2.out HFS.out hg2).mono ?_
        rintro e w4' ⟨rfl, vs, hs4, hf4, hmv⟩
        have HS4 := Lib.hid hs4
        have HF4 := Lib.hid hf4
        have HMV := Lib.hid hmv
        clear hs4 hf4 hmv ch fh m0 m1 m2 q0 q1
        go_wp2_with fail
        go_meet
        case rel =>
          obtain ⟨⟨u4, bp4, bl4, L4, hr4, hu4, h244, h264, h194, ho5⟩, hk4⟩ := HMV.out
          have hnk : ∀ b, wa.heap.size ≤ b → b ∉ sk :: k.bs p := fun b hb => by
            simp only [List.mem_cons, not_or]
            exact ⟨by have := HKS.out; omega, (HFG.out b (by omega)).1⟩
          refine ⟨⟨_, vs, HH2.out.kp hk4 (by simp; exact ⟨HHS.out.1, HFH.out.1⟩), HS4.out, ?_, ?_⟩, ⟨⟨u4, bp4, bl4, L4, ?_, ?_, ?_, h194, fun j j1 j2 j3 j4 => (ho5 j j1 j2 j3 j4).trans (HO3.out j j1 j2 j3 j4)⟩, ?_⟩⟩
          · exact ((HELD.out.fresh).low (lo2 := wa.heap.size) (by omega)).kp hk4 hnk
          · have := HF4.out.low (lo2 := wa.heap.size) (by omega)
            rw [List.nil_append] at this
            exact this
          · rw [show c + (2 + m + n) = c + (2 + m) + n by omega]; exact hr4
          · rw [show mi + (2 + m + n) = mi + (2 + m) + n by omega]; exact h244
          · rw [show mc + (2 + m + n) = mc + (2 + m) + n by omega]; exact h264
          · exact HKK2.out.trans (hk4.mono fun b hb => by simp only [List.mem_cons] at hb ⊢; rcases hb with h | h; exact .inr (.inl h); exact .inr (.inr h))
      | bare m w1' w2 w3 w4 w5 =>
        rw [HY1.out] at w1'
        obtain ⟨q, rfl⟩ : ∃ q, u1 = q + 1 := ⟨u1 - 1, by omega⟩
        have hy : (y1 == 60) = false := by rw [beq_eq_false_iff_ne]; exact w1'
        have W3 := Lib.hid w3
        have W2 := Lib.hid w2
        clear w1' w2 w3
        go_wp2_with fail
        refine (handle_any k p c q bp1 bl1 mi mc hk m (1 + m) z (S k.T (c + (1 + m))) mi ml mc (.slice none 0 0) L1 wb HR.out HRB.out H241.out H261.out H191.out (by omega) (by omega) W2.out W3.out (by omega) rfl X1.out X3.out X4.out (.inr ⟨X5.out, rfl⟩) HBHB.out HFH.out (by omega)).mono ?_
        rintro e w2' ⟨rfl, v, hh2, hv2, ⟨⟨u2, bp2, bl2, L2, hr2, h242, h262, ⟨z2, h192⟩, ho2⟩, hk2⟩⟩
        obtain ⟨g, G, rfl, hglo, hg1, hgb, hgl, hgv, hgy⟩ : ∃ g G, v = .slice (some ⟨g, 0, none⟩) ((1 + m)) 32 ∧ wb.heap.size ≤ g ∧ 1 ≤ (1 + m) ∧ Bk w2' g 5 G ∧ G.length = 32 ∧ (∀ j, j < (1 + m) → G[j]? = some (.int .u8 (S k.T (c + j)))) ∧ ∀ j, j < 32 → ∃ y, G[j]? = some (.int .u8 y) := by
          rcases hv2 with ⟨h0, _⟩ | h
          · omega
          · exact h
        have hm2 := HBMB.out.kp hk2 (by simp; exact ⟨fun e => HHS.out.2.1 e.symm, HMKN.out⟩)
        have hs2 := HBSB.out.kp hk2 (by simp; exact ⟨fun e => HHS.out.1 e.symm, HFS.out.1⟩)
        have hheld : Held k.T wb.heap.size c (1 + m) (.slice (some ⟨g, 0, none⟩) ((1 + m)) 32) w2' := .inr ⟨g, G, rfl, hglo, hg1, hgb, hgl, hgv, hgy⟩
        have q0 : w2'.cell? ⟨g, 0, none⟩ = some (.int .u8 33) := by rw [(at_ hgb 0 (hgv 0 (by omega))).1, Nat.add_zero, W2.out]
        obtain ⟨y2, HY2⟩ : ∃ y, Hid (S k.T (c + m) = y) := ⟨_, rfl⟩
        have hy2 : (y2 == 33) = false := by
          rw [beq_eq_false_iff_ne, ← HY2.out]
          intro e
          have := W3.out (m - 1) (by omega)
          rw [show c + (1 + (m - 1)) = c + m by omega, e] at this
          cases this
        have q1 : w2'.cell? ⟨g, m, none⟩ = some (.int .u8 y2) := by rw [(at_ hgb m (hgv m (by omega))).1, HY2.out]
        have e2 : decide ((1 : Int) < 1 + (m : Int)) = true := by simp; omega
        have e3 : (1 : Int) + (m : Int) - 1 = (m : Int) := by omega
        have e4 : (0 : Int) < 1 + (m : Int) := by omega
        have e5 : (m : Int) < 1 + (m : Int) := by omega
        have e6 : (0 : Int) ≤ (m : Int) := by omega
        obtain ⟨ch, fh⟩ := at_ hh2 0 rfl
        have m0 := (at_ hm2 0 rfl).1
        have m1 := (at_ hm2 1 rfl).1
        have m2 := (at_ hm2 2 rfl).1
        have hsz2 := hk2.size
        have hg2 : 2 < w2'.heap.size := by omega
        have ho3 : ∀ j, rdOff j → j ≠ 19 → j ≠ 24 → j ≠ 26 → L2[j]? = L[j]? := fun j j1 j2 j3 j4 => (ho2 j j1 j2 j3 j4).trans (HO1.out j j1)
        have hkk2 : Kp (hk :: sk :: k.bs p) wa w2' := (HKB.out.mono fun b hb => List.mem_cons_of_mem _ (List.mem_cons_of_mem _ hb)).trans (hk2.mono fun b hb => by simp only [List.mem_cons] at hb ⊢; rcases hb with h | h; exact .inl h; exact .inr (.inr h))
        have HELD := Lib.hid hheld
        have HR2 := Lib.hid hr2
        have H242 := Lib.hid h242
        have H262 := Lib.hid h262
        have H192 := Lib.hid h192
        have HO3 := Lib.hid ho3
        have HKK2 := Lib.hid hkk2
        have HH2 := Lib.hid hh2
        have HS2 := Lib.hid hs2
        have HGB := Lib.hid hgb
        have HGV := Lib.hid hgv
        clear hheld hr2 h242 h262 h192 ho2 ho3 hk2 hkk2 hh2 hs2 hgb hgv hm2 hv2 hgy hgl
        obtain ⟨l0, HL0⟩ : ∃ l0 : List Int, Hid (((List.range m).map fun j => S k.T (c + (1 + j))) = l0) := ⟨_, rfl⟩
        have hl0 : l0.length = m := by rw [← HL0.out]; simp
        have hcl : ∀ i, i < l0.length → w2'.cell? ⟨g, 1 + i, none⟩ = some (.int .u8 (l0.getD i 0)) := fun i hi => by
          rw [(at_ HGB.out (1 + i) (HGV.out (1 + i) (by omega))).1, ← HL0.out]
          rw [hl0] at hi
          simp [List.getD_eq_getElem?_getD, hi]
        have HL := Lib.hid hl0
        have HCL := Lib.hid hcl
        clear hl0 hcl
        go_wp2_with fail
        refine (uri_any k p (c + (1 + m)) u2 bp2 bl2 (mi + (1 + m)) (mc + (1 + m)) sk 0 (1 + m) 32 (some ⟨g, 0, none⟩) z2 (S k.T (c + (1 + m))) mi ml mc (.slice none 0 0) l0 true true L2 w2' HR.out HR2.out H242.out H262.out H192.out (by omega) (by omega) (by simp; omega) (by simp; omega) (by simp; omega) (by simp; omega) (fun _ => ⟨g, rfl, by rw [HL.out]; omega, by omega, by omega, HCL.out⟩) (fun e => by cases e) (.inl rfl) (.inl rfl) (by omega) (fun i hi => by omega) (by rw [Nat.add_zero]) X1.out X3.out X4.out X6.out HS2.out HFS.out hg2).mono ?_
        rintro e w4' ⟨rfl, vs, hs4, hf4, hmv⟩
        rw [show l0 ++ (List.range 0).map (fun j => S k.T (c + (1 + m) + j)) = l0 by simp] at hf4
        obtain ⟨gs, cs, rfl, hgs1, hgs2, hgs3, hgs4⟩ : ∃ g c', vs = .slice (some ⟨g, 0, none⟩) m c' ∧ w2'.heap.size ≤ g ∧ m ≤ c' ∧ c' ≤ maxLen ∧ ∀ i, i < l0.length → w4'.cell? ⟨g, 0 + i, none⟩ = some (.int .u8 (l0.getD i 0)) := by
          rcases hf4 with ⟨_, h0⟩ | ⟨g, c', e1, e2, e3, e4, e5⟩
          · have := HL.out; rw [h0] at this; simp at this; omega
          · rw [HL.out] at e1 e3
            exact ⟨g, c', e1, e2, e3, e4, e5⟩
        have hk4 := hmv.kp
        have hh4 := HH2.out.kp hk4 (by simp; exact ⟨HHS.out.1, HFH.out.1⟩)
        obtain ⟨cs0, fs0⟩ := at_ hs4 0 rfl
        clear ch fh
        obtain ⟨ch, fh⟩ := at_ hh4 0 rfl
        have hhl : hk < w4'.heap.size := hh4.lt
        have hsl : sk < w4'.heap.size := hs4.lt
        have hn1 : ¬ hk = w4'.heap.size := by omega
        have hn2 : ¬ w4'.heap.size = hk := by omega
        have hn3 : ¬ sk = w4'.heap.size := by omega
        have hn4 : ¬ w4'.heap.size = sk := by omega
        have hn5 : ¬ hk = sk := HHS.out.1
        have hn6 : ¬ sk = hk := fun e => HHS.out.1 e.symm
        have hm0 : ((m : Int) == 0) = false := by rw [beq_eq_false_iff_ne]; omega
        have hsz4 := hk4.size
        have HS4 := Lib.hid hs4
        have HH4 := Lib.hid hh4
        have HF4 := Lib.hid hf4
        have HMV := Lib.hid hmv
        clear hs4 hh4 hf4 hmv hk4 m0 m1 m2 q0 q1 hgs4
        go_wp2_with fail
        go_meet
        case rel =>
          obtain ⟨⟨u4, bp4, bl4, L4, hr4, hu4, h244, h264, h194, ho5⟩, hk4⟩ := HMV.out
          have hk6 : Kp [hk] w4' (w4'.setCell ⟨hk, 0, none⟩ (.slice (some ⟨w4'.heap.size, 0, none⟩) 1 1)) := (Kp.refl _ _).setCell hk 0 _ (by simp)
          have hset : Bk (w4'.setCell ⟨hk, 0, none⟩ (.slice (some ⟨w4'.heap.size, 0, none⟩) 1 1)) hk 22 [.slice (some ⟨w4'.heap.size, 0, none⟩) 1 1] := HH4.out.set 0 _
          have hs6 : (w4'.setCell ⟨hk, 0, none⟩ (.slice (some ⟨w4'.heap.size, 0, none⟩) 1 1)).heap.size = w4'.heap.size := by simp
          generalize w4'.setCell ⟨hk, 0, none⟩ (.slice (some ⟨w4'.heap.size, 0, none⟩) 1 1) = w6 at *
          have hnew : Bk (w6.alloc (.cells #[.int .u8 33] 5)) w4'.heap.size 5 [.int .u8 33] := by
            have := Bk.new w6 [.int .u8 33] 5
            rw [hs6] at this
            exact this
          have hkall : Kp [hk] w4' (w6.alloc (.cells #[.int .u8 33] 5)) := hk6.trans (Kp.of_below ((Below.refl _ _).alloc (Nat.le_refl _) _))
          have hbig : ∀ b, wa.heap.size ≤ b → b ∉ [hk] := fun b hb => by have := HKS.out; simp; omega
          refine ⟨⟨_, _, hset.alloc _, HS4.out.kp hkall (by simp; exact hn6), .inr ⟨w4'.heap.size, 1, rfl, by omega, by simp, by unfold maxLen; omega, fun i hi => ?_⟩, ?_⟩, ⟨⟨u4, bp4, bl4, L4, ?_, ?_, ?_, h194, fun j j1 j2 j3 j4 => (ho5 j j1 j2 j3 j4).trans (HO3.out j j1 j2 j3 j4)⟩, ?_⟩⟩
          · have hi0 : i = 0 := by simp at hi; omega
            subst hi0
            rw [(at_ hnew 0 rfl).1]
            rfl
          · have := (HF4.out.low (lo2 := wa.heap.size) (by omega)).kp hkall hbig
            rw [HL0.out]
            exact this
          · exact rdr_far hr4 hkall (fun b hb => by simp at hb; subst hb; exact HFH.out)
          · exact h244
          · exact h264
          · exact (HKK2.out.trans (hk4.mono fun b hb => by simp only [List.mem_cons] at hb ⊢; rcases hb with h | h; exact .inr (.inl h); exact .inr (.inr h))).trans (hkall.mono fun b hb => by simp at hb; simp [hb])
      | sign w1' w2 =>
        rw [HY1.out] at w1'
        have w3 : ∀ i, i < 0 → Al.al (S k.T (c + (1 + i))) = true := fun i hi => by omega
        obtain ⟨q, rfl⟩ : ∃ q, u1 = q + 1 := ⟨u1 - 1, by omega⟩
        have hy : (y1 == 60) = false := by rw [beq_eq_false_iff_ne]; exact w1'
        have W3 := Lib.hid w3
        have W2 := Lib.hid w2
        clear w1' w2 w3
        go_wp2_with fail
        refine (handle_any k p c q bp1 bl1 mi mc hk 0 (1 + 0) z (S k.T (c + 1)) mi ml mc (.slice none 0 0) L1 wb HR.out HRB.out H241.out H261.out H191.out (by omega) (by omega) W2.out W3.out (by omega) rfl X1.out X3.out X4.out (.inr ⟨X5.out, rfl⟩) HBHB.out HFH.out (by omega)).mono ?_
        rintro e w2' ⟨rfl, v, hh2, hv2, ⟨⟨u2, bp2, bl2, L2, hr2, h242, h262, ⟨z2, h192⟩, ho2⟩, hk2⟩⟩
        obtain ⟨g, G, rfl, hglo, hg1, hgb, hgl, hgv, hgy⟩ : ∃ g G, v = .slice (some ⟨g, 0, none⟩) ((1 + 0)) 32 ∧ wb.heap.size ≤ g ∧ 1 ≤ (1 + 0) ∧ Bk w2' g 5 G ∧ G.length = 32 ∧ (∀ j, j < (1 + 0) → G[j]? = some (.int .u8 (S k.T (c + j)))) ∧ ∀ j, j < 32 → ∃ y, G[j]? = some (.int .u8 y) := by
          rcases hv2 with ⟨h0, _⟩ | h
          · omega
          · exact h
        have hm2 := HBMB.out.kp hk2 (by simp; exact ⟨fun e => HHS.out.2.1 e.symm, HMKN.out⟩)
        have hs2 := HBSB.out.kp hk2 (by simp; exact ⟨fun e => HHS.out.1 e.symm, HFS.out.1⟩)
        have hheld : Held k.T wb.heap.size c (1 + 0) (.slice (some ⟨g, 0, none⟩) ((1 + 0)) 32) w2' := .inr ⟨g, G, rfl, hglo, hg1, hgb, hgl, hgv, hgy⟩
        have q0 : w2'.cell? ⟨g, 0, none⟩ = some (.int .u8 33) := by rw [(at_ hgb 0 (hgv 0 (by omega))).1, Nat.add_zero, W2.out]
        skip
        obtain ⟨ch, fh⟩ := at_ hh2 0 rfl
        have m0 := (at_ hm2 0 rfl).1
        have m1 := (at_ hm2 1 rfl).1
        have m2 := (at_ hm2 2 rfl).1
        have hsz2 := hk2.size
        have hg2 : 2 < w2'.heap.size := by omega
        have ho3 : ∀ j, rdOff j → j ≠ 19 → j ≠ 24 → j ≠ 26 → L2[j]? = L[j]? := fun j j1 j2 j3 j4 => (ho2 j j1 j2 j3 j4).trans (HO1.out j j1)
        have hkk2 : Kp (hk :: sk :: k.bs p) wa w2' := (HKB.out.mono fun b hb => List.mem_cons_of_mem _ (List.mem_cons_of_mem _ hb)).trans (hk2.mono fun b hb => by simp only [List.mem_cons] at hb ⊢; rcases hb with h | h; exact .inl h; exact .inr (.inr h))
        have HELD := Lib.hid hheld
        have HR2 := Lib.hid hr2
        have H242 := Lib.hid h242
        have H262 := Lib.hid h262
        have H192 := Lib.hid h192
        have HO3 := Lib.hid ho3
        have HKK2 := Lib.hid hkk2
        have HH2 := Lib.hid hh2
        have HS2 := Lib.hid hs2
        have HGB := Lib.hid hgb
        have HGV := Lib.hid hgv
        clear hheld hr2 h242 h262 h192 ho2 ho3 hk2 hkk2 hh2 hs2 hgb hgv hm2 hv2 hgy hgl
        go_wp2_with fail
        refine (uri_any k p (c + 1) u2 bp2 bl2 (mi + 1) (mc + 1) sk 0 1 32 (some ⟨g, 0, none⟩) z2 (S k.T (c + 1)) mi ml mc (.slice none 0 0) [] true false L2 w2' HR.out HR2.out H242.out H262.out H192.out (by omega) (by omega) (by simp) (by simp) (by simp) (by simp) (fun e => by cases e) (fun _ => rfl) (.inl rfl) (.inl rfl) (by omega) (fun i hi => by omega) (by rw [Nat.add_zero]) X1.out X3.out X4.out X6.out HS2.out HFS.out hg2).mono ?_
        rintro e w4' ⟨rfl, vs, hs4, hf4, hmv⟩
        rw [show ([] : List Int) ++ (List.range 0).map (fun j => S k.T (c + 1 + j)) = [] by simp] at hf4
        obtain ⟨ax, cs, rfl⟩ : ∃ a c', vs = .slice a 0 c' := by
          rcases hf4 with ⟨h0, _⟩ | ⟨g, c', e1, _⟩
          · exact ⟨_, _, h0⟩
          · exact ⟨_, _, e1⟩
        have hk4 := hmv.kp
        have hh4 := HH2.out.kp hk4 (by simp; exact ⟨HHS.out.1, HFH.out.1⟩)
        obtain ⟨cs0, fs0⟩ := at_ hs4 0 rfl
        clear ch fh
        obtain ⟨ch, fh⟩ := at_ hh4 0 rfl
        have hhl : hk < w4'.heap.size := hh4.lt
        have hsl : sk < w4'.heap.size := hs4.lt
        have hn1 : ¬ hk = w4'.heap.size := by omega
        have hn2 : ¬ w4'.heap.size = hk := by omega
        have hn3 : ¬ sk = w4'.heap.size := by omega
        have hn4 : ¬ w4'.heap.size = sk := by omega
        have hn5 : ¬ hk = sk := HHS.out.1
        have hn6 : ¬ sk = hk := fun e => HHS.out.1 e.symm
        have hsz4 := hk4.size
        have HS4 := Lib.hid hs4
        have HH4 := Lib.hid hh4
        have HF4 := Lib.hid hf4
        have HMV := Lib.hid hmv
        clear hs4 hh4 hf4 hmv hk4 m0 m1 m2 q0
        go_wp2_with fail
        go_meet
        case rel =>
          obtain ⟨⟨u4, bp4, bl4, L4, hr4, hu4, h244, h264, h194, ho5⟩, hk4⟩ := HMV.out
          have hk6 : Kp [hk, sk] w4' (((w4'.setCell ⟨hk, 0, none⟩ (.slice (some ⟨w4'.heap.size, 0, none⟩) 1 1)).setCell ⟨hk, 0, none⟩ (.slice ax 0 cs)).setCell ⟨sk, 0, none⟩ (.slice (some ⟨w4'.heap.size, 0, none⟩) 1 1)) := (((Kp.refl _ _).setCell hk 0 _ (by simp)).setCell hk 0 _ (by simp)).setCell sk 0 _ (by simp)
          have hset : Bk (((w4'.setCell ⟨hk, 0, none⟩ (.slice (some ⟨w4'.heap.size, 0, none⟩) 1 1)).setCell ⟨hk, 0, none⟩ (.slice ax 0 cs)).setCell ⟨sk, 0, none⟩ (.slice (some ⟨w4'.heap.size, 0, none⟩) 1 1)) hk 22 [.slice ax 0 cs] := ((HH4.out.set 0 (.slice (some ⟨w4'.heap.size, 0, none⟩) 1 1)).set 0 (.slice ax 0 cs)).other sk 0 _ hn5
          have hset2 : Bk (((w4'.setCell ⟨hk, 0, none⟩ (.slice (some ⟨w4'.heap.size, 0, none⟩) 1 1)).setCell ⟨hk, 0, none⟩ (.slice ax 0 cs)).setCell ⟨sk, 0, none⟩ (.slice (some ⟨w4'.heap.size, 0, none⟩) 1 1)) sk 22 [.slice (some ⟨w4'.heap.size, 0, none⟩) 1 1] := (((HS4.out.other hk 0 _ hn6).other hk 0 _ hn6).set 0 _)
          have hs6 : (((w4'.setCell ⟨hk, 0, none⟩ (.slice (some ⟨w4'.heap.size, 0, none⟩) 1 1)).setCell ⟨hk, 0, none⟩ (.slice ax 0 cs)).setCell ⟨sk, 0, none⟩ (.slice (some ⟨w4'.heap.size, 0, none⟩) 1 1)).heap.size = w4'.heap.size := by simp
          generalize ((w4'.setCell ⟨hk, 0, none⟩ (.slice (some ⟨w4'.heap.size, 0, none⟩) 1 1)).setCell ⟨hk, 0, none⟩ (.slice ax 0 cs)).setCell ⟨sk, 0, none⟩ (.slice (some ⟨w4'.heap.size, 0, none⟩) 1 1) = w6 at *
          have hnew : Bk (w6.alloc (.cells #[.int .u8 33] 5)) w4'.heap.size 5 [.int .u8 33] := by
            have := Bk.new w6 [.int .u8 33] 5
            rw [hs6] at this
            exact this
          have hkall : Kp [hk, sk] w4' (w6.alloc (.cells #[.int .u8 33] 5)) := hk6.trans (Kp.of_below ((Below.refl _ _).alloc (Nat.le_refl _) _))
          have hbig : ∀ b, wa.heap.size ≤ b → b ∉ [hk, sk] := fun b hb => by have := HKS.out; simp; omega
          refine ⟨⟨_, _, hset.alloc _, hset2.alloc _, ?_, .inr ⟨w4'.heap.size, 1, rfl, by omega, by simp, by unfold maxLen; omega, fun i hi => ?_⟩⟩, ⟨⟨u4, bp4, bl4, L4, ?_, ?_, ?_, h194, fun j j1 j2 j3 j4 => (ho5 j j1 j2 j3 j4).trans (HO3.out j j1 j2 j3 j4)⟩, ?_⟩⟩
          · exact (HF4.out.low (lo2 := wa.heap.size) (by omega)).kp hkall hbig
          · have hi0 : i = 0 := by simp at hi; omega
            subst hi0
            rw [(at_ hnew 0 rfl).1]
            rfl
          · exact rdr_far hr4 hkall (fun b hb => by simp at hb; rcases hb with rfl | rfl; exact HFH.out; exact HFS.out)
          · exact h244
          · exact h264
          · exact (HKK2.out.trans (hk4.mono fun b hb => by simp only [List.mem_cons] at hb ⊢; rcases hb with h | h; exact .inr (.inl h); exact .inr (.inr h))).trans (hkall.mono fun b hb => by simp at hb; rcases hb with h | h <;> simp [h])
    case rest =>
      obtain ⟨⟨vh, vs, hvh, hvs, hfh, hfs⟩, ⟨⟨u2, bp2, bl2, L2, hr2, h242, h262, ⟨z2, h192⟩, ho2⟩, hk2⟩⟩ := hcut
      obtain ⟨c18, f18⟩ := at_ hr2.pb 18 hr2.at18
      obtain ⟨ub2, hub2, HUB3⟩ : ∃ b : Bool, decide ((u2 : Int) < 1) = b ∧ Hid (b = false → 1 ≤ u2) := ⟨_, rfl, Lib.hid fun h => by simp at h; omega⟩
      have hsz2 := hk2.size
      have hg2 : 2 < wc.heap.size := by omega
      have HVH := Lib.hid hvh
      have HVS := Lib.hid hvs
      have HFH := Lib.hid hfh
      have HFS := Lib.hid hfs
      have HR2 := Lib.hid hr2
      have H242 := Lib.hid h242
      have H262 := Lib.hid h262
      have H192 := Lib.hid h192
      have HO2 := Lib.hid ho2
      have HK2 := Lib.hid hk2
      clear hvh hvs hfh hfs hr2 h242 h262 h192 ho2 hk2 HRB HKB HBHB HBSB HBMB H241 H261 H191 HO1
      go_upto_region 24 with fail
      go_cut [105] from 96 to 105 (fun s105 wx => s105 = .bool false ∧ Bk wx hk 22 [vh] ∧ Bk wx sk 22 [vs] ∧ Fresh wa.heap.size wx vh lh ∧ Fresh wa.heap.size wx vs ls ∧ Moved k p c N mi mc L (hk :: sk :: k.bs p) wa wx)
      case first =>
        cases ub2 with
        | false =>
          have hu1' := HUB3.out rfl
          go_wp2_with fail
          go_meet
          case rel => exact ⟨rfl, HVH.out, HVS.out, HFH.out, HFS.out, ⟨⟨u2, bp2, bl2, L2, HR2.out, hu1', H242.out, H262.out, ⟨z2, H192.out⟩, HO2.out⟩, HK2.out⟩⟩
        | true =>
          go_wp2_with fail
          refine (ub_any k p (c + N) u2 bp2 bl2 1 L2 wc HR.out HR2.out (by omega) (by omega) hg2).mono ?_
          rintro e w3 ⟨rfl, hupd⟩
          have HU := Lib.hid hupd
          clear hupd
          go_wp2_with fail
          go_meet
          case rel =>
            have hmv := moved_upd HU.out H242.out H262.out H192.out HO2.out HK2.out (fun b h => List.mem_cons_of_mem _ (List.mem_cons_of_mem _ h))
            obtain ⟨u', bp', bl', L', q1, q2, q3, q4, q5, q6, q7⟩ := HU.out
            exact ⟨rfl, HVH.out.kp q6 (HFG.out hk (by have := HKS.out; omega)).1, HVS.out.kp q6 (HFG.out sk (by have := HKS.out; omega)).1, HFH.out.kp q6 (fun b hb => (HFG.out b (by omega)).1), HFS.out.kp q6 (fun b hb => (HFG.out b (by omega)).1), hmv⟩
      case rest =>
        obtain ⟨rfl, hvh, hvs, hfh, hfs, ⟨⟨u3, bp3, bl3, L3, hr3, hu3, h243, h263, ⟨z3, h193⟩, ho3⟩, hk3⟩⟩ := hcut
        obtain ⟨ah, nh, kh, rfl⟩ := hfh.slice
        obtain ⟨ax, ns, ks, rfl⟩ := hfs.slice
        clear hub2 c18 f18 HVH HVS HFH HFS HR2 H242 H262 H192 HO2 HK2
        have hxb := HXB.out
        obtain ⟨x1, x2, x3, x4, x5, x6⟩ := blank_al hxb
        have hsm3 := hr3.small
        have hrd3 := hr3.ready 1 hu3
        have hge3 := adv_ge k.T (c + N) 1
        have hby := hr3.byte 0 (by omega)
        rw [Nat.add_zero, Nat.add_zero] at hby
        have hbz : ∀ M, Calls Tryd.prog 110 #[.slice (some ⟨k.q, 0, none⟩) bl3 1536, .int .i64 bp3] (wc.drewN M) fun e w' => e = .returned (.bool (isBlankz (S k.T (c + N)))) ∧ w' = wc.drewN M := fun M => blankz_any k.q bp3 bl3 1536 (S k.T (c + N)) (wc.drewN M) (by omega) (by omega) x3 x4 hby
        rw [x2] at hbz
        obtain ⟨c16, f16⟩ := at_ hr3.pb 16 hr3.at16
        obtain ⟨c17, f17⟩ := at_ hr3.pb 17 hr3.at17
        have hps : ∀ b, b < w.heap.size → b ∉ k.bs p → b ∉ hk :: sk :: k.bs p := fun b h1 h2 => by
          simp only [List.mem_cons, not_or]
          exact ⟨by have := HKS.out; omega, by have := HKS.out; omega, h2⟩
        have hT3 := HTA.out.kp hk3 (hps t htl HFT.out.1)
        have hM3 := HBM.out.kp hk3 (by
          simp only [List.mem_cons, not_or]
          exact ⟨by have := HKS.out; omega, by have := HKS.out; omega, (HFG.out mk (by have := HKS.out; omega)).1⟩)
        have e24 : L3[24]? = some (.int .i64 ei) := by rw [← HEI.out]; exact h243
        have e25 : L3[25]? = some (.int .i64 (ml : Nat)) := (ho3 25 (by unfold rdOff; omega) (by omega) (by omega) (by omega)).trans H25.out
        have e26 : L3[26]? = some (.int .i64 ec) := by rw [← HEC.out]; exact h263
        have HBZ := Lib.hid hbz
        have HVH := Lib.hid hvh
        have HVS := Lib.hid hvs
        have HFH := Lib.hid hfh
        have HFS := Lib.hid hfs
        have HR3 := Lib.hid hr3
        have HK3 := Lib.hid hk3
        have HT3 := Lib.hid hT3
        have HM3 := Lib.hid hM3
        have hsz3 := hk3.size
        have HE24 := Lib.hid e24
        have HE25 := Lib.hid e25
        have HE26 := Lib.hid e26
        clear hxb x1 x2 x3 x4 x5 x6 hrd3 hge3 hby hbz hvh hvs hfh hfs hr3 hk3 hT3 hM3 h243 h263 h193 ho3 e24 e25 e26 hps
        go_wp2_with fail
        go_quiet ((go_at_call 110; exact Calls.quiet_of_same (HBZ.out _)))
        obtain ⟨wb2, HWB2⟩ : ∃ wb2 : World, Hid (wc.drewN nq = wb2) := ⟨_, rfl⟩
        rw [HWB2.out]
        have hrb : Rdr k p (c + N) u3 bp3 bl3 L3 wb2 := by rw [← HWB2.out]; exact HR3.out.drewN nq
        have hkb : Kp (hk :: sk :: k.bs p) wa wb2 := by rw [← HWB2.out]; exact HK3.out.drewN nq
        have hkc : Kp [] wc wb2 := by rw [← HWB2.out]; exact (Kp.refl _ _).drewN nq
        have hszb2 : wb2.heap.size = wc.heap.size := by rw [← HWB2.out]; rfl
        clear c16 f16 c17 f17 HWB2
        obtain ⟨d24, x24⟩ := at_ hrb.pb 24 HE24.out
        obtain ⟨d25, x25⟩ := at_ hrb.pb 25 HE25.out
        obtain ⟨d26, x26⟩ := at_ hrb.pb 26 HE26.out
        have m1 : ¬ p = wb2.heap.size := by omega
        have m2 : ¬ wb2.heap.size = p := by omega
        have HKB := Lib.hid hkb
        have HKC := Lib.hid hkc
        clear hrb hkb hkc
        go_upto_region 30 with fail
        obtain ⟨wd, HWD⟩ : ∃ wd : World, Hid (wb2.alloc (.cells #[.int .i64 ei, .int .i64 ml, .int .i64 ec] 74) = wd) := ⟨_, rfl⟩
        rw [HWD.out]
        have hbd : Below wb2.heap.size wb2 wd := by rw [← HWD.out]; exact (Below.refl _ _).alloc (Nat.le_refl _) _
        have hEd : Bk wd wb2.heap.size 74 (tri ei ml ec) := by rw [← HWD.out]; exact Bk.new wb2 (tri ei ml ec) 74
        (try rw [hszb2] at hEd)
        have hkd : Kp [] wc wd := HKC.out.trans (Kp.of_below hbd)
        have hTd := HT3.out.kp hkd (by simp)
        have hMd := HM3.out.kp hkd (by simp)
        have hHd := HVH.out.kp hkd (by simp)
        have hSd := HVS.out.kp hkd (by simp)
        have a0 := (at_ hMd 0 rfl).1
        have a1 := (at_ hMd 1 rfl).1
        have a2 := (at_ hMd 2 rfl).1
        have b0 := (at_ hEd 0 rfl).1
        have b1 := (at_ hEd 1 rfl).1
        have b2 := (at_ hEd 2 rfl).1
        have ch := (at_ hHd 0 rfl).1
        have cs := (at_ hSd 0 rfl).1
        have HTD := Lib.hid hTd
        have HKD := Lib.hid hkd
        have HBD := Lib.hid hbd
        obtain ⟨tc0, tf0⟩ := at_ HTD.out 0 rfl
        obtain ⟨tc1, tf1⟩ := at_ HTD.out 1 rfl
        obtain ⟨tc2, tf2⟩ := at_ HTD.out 2 rfl
        obtain ⟨tc3, tf3⟩ := at_ HTD.out 3 rfl
        obtain ⟨tc4, tf4⟩ := at_ HTD.out 4 rfl
        obtain ⟨tc5, tf5⟩ := at_ HTD.out 5 rfl
        obtain ⟨tc6, tf6⟩ := at_ HTD.out 6 rfl
        obtain ⟨tc7, tf7⟩ := at_ HTD.out 7 rfl
        obtain ⟨tc8, tf8⟩ := at_ HTD.out 8 rfl
        obtain ⟨tc9, tf9⟩ := at_ HTD.out 9 rfl
        obtain ⟨tc10, tf10⟩ := at_ HTD.out 10 rfl
        obtain ⟨tc11, tf11⟩ := at_ HTD.out 11 rfl
        obtain ⟨tc12, tf12⟩ := at_ HTD.out 12 rfl
        obtain ⟨tc13, tf13⟩ := at_ HTD.out 13 rfl
        clear hbd hEd hkd hTd hMd hHd hSd d24 x24 d25 x25 d26 x26
        go_wp2_with fail
        go_ret
        have hT2 := ((((((((((((((HTD.out.set 0 (.int .i64 20)).set 1 (.int .i64 mi)).set 2 (.int .i64 ml)).set 3 (.int .i64 mc)).set 4 (.int .i64 ei)).set 5 (.int .i64 ml)).set 6 (.int .i64 ec)).set 7 (.int .i64 0)).set 8 (.slice ah nh kh)).set 9 (.slice ax ns ks)).set 10 (.slice none 0 0)).set 11 (.int .i8 0)).set 12 (.int .i8 0)).set 13 (.int .i8 0))
        have hk9 := (((((((((((((((Kp.refl [t] wd).setCell t 0 (.int .i64 20) (by simp)).setCell t 1 (.int .i64 mi) (by simp)).setCell t 2 (.int .i64 ml) (by simp)).setCell t 3 (.int .i64 mc) (by simp)).setCell t 4 (.int .i64 ei) (by simp)).setCell t 5 (.int .i64 ml) (by simp)).setCell t 6 (.int .i64 ec) (by simp)).setCell t 7 (.int .i64 0) (by simp)).setCell t 8 (.slice ah nh kh) (by simp)).setCell t 9 (.slice ax ns ks) (by simp)).setCell t 10 (.slice none 0 0) (by simp)).setCell t 11 (.int .i8 0) (by simp)).setCell t 12 (.int .i8 0) (by simp)).setCell t 13 (.int .i8 0) (by simp))
        have hbig : ∀ b, wa.heap.size ≤ b → b ∉ [t] := fun b hb => by simp; omega
        refine ⟨rfl, _, _, hT2, ?_, ?_, ?_⟩
        · exact (((HFH.out.kp HKD.out (by simp)).kp hk9 hbig).low (by omega))
        · exact (((HFS.out.kp HKD.out (by simp)).kp hk9 hbig).low (by omega))
        · refine Kp.trans_new (w1 := wd) ?_ hk9 (fun b hb => .inl (by simp at hb; simp [hb]))
          refine Kp.trans_new (w1 := wa) (Kp.of_below HBA.out) (HKB.out.trans (Kp.of_below HBD.out)) (fun b hb => ?_)
          simp only [List.mem_cons] at hb
          rcases hb with h | h | h
          · exact .inr (by have := HKS.out; omega)
          · exact .inr (by have := HKS.out; omega)
          · exact .inl (List.mem_cons_of_mem _ h)
end Go.Proofs.YtocbbekciphjgaaDoor.Sc
