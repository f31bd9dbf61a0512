/- The URI of a tag is scanned (yaml_parser_scan_tag_uri): the walk. -/
import Derived.Test.YtocbbekciphjgaaDoorTgC
import Derived.Laws.AppendOwn
namespace Go.Proofs.YtocbbekciphjgaaDoor.Sc
open Go.RowKit Go.Proofs.YtocbbekciphjgaaDoor.Rdp Go.Proofs.YtocbbekciphjgaaDoor.Pa
set_option linter.unusedVariables false
set_option linter.unusedSimpArgs false
theorem info5' : (Tryd.prog.info? 5).map (fun i => (i.zero, i.size, i.bytes)) = some (some (.int .u8 0), 1, 1) := by kernel_rfl
theorem Uri.drewN {k : Kn} {p c mi mc n lo sb i : Nat} {L : List Value} {w0 w : World} {v0 : Value} {l0 : List Int} (h : Uri k p c mi mc n lo sb L w0 v0 l0 i w) (N : Nat) : Uri k p c mi mc n lo sb L w0 v0 l0 i (w.drewN N) := by
  obtain ⟨h1, h2, v, h3, h4⟩ := h
  have hk : Kp [] w (w.drewN N) := (Kp.refl [] w).drewN N
  refine ⟨h1, h2.drewN N, v, h3.kp hk (by simp), ?_⟩
  rcases h4 with ⟨a, b, d⟩ | ⟨a, d⟩
  · exact .inl ⟨a, b, d.kp hk (by simp)⟩
  · exact .inr ⟨a, d.kp hk (by simp)⟩
theorem uri_loop {k : Kn} {p c mi mc n sb ub : Nat} {hb : Bool} {L : List Value} {wa wr : World} {v0 : Value} {l0 : List Int} {a : Act} {Q : Exit → Act → World → Prop} (hr : RoundOk k p) (hfg : ∀ g, wa.heap.size ≤ g → Far k p g) (hsbf : Far k p sb) (hsbs : sb < wa.heap.size) (hg : 2 < wa.heap.size) (hmi : mi ≤ 1000000) (hmc : mc ≤ 1000000) (hn : n ≤ 12)
    (hiu : InU p ub sb a) (h12 : gt a 12 = .bool hb) (hU : Uri k p c mi mc n wa.heap.size sb L wa v0 l0 0 wr) (hnil : 0 < n → v0 = .slice none 0 0) (hur : ∀ i, i < n → Al.al (S k.T (c + i)) = true ∨ S k.T (c + i) = 58)
    (hend : Al.al (S k.T (c + n)) = false) (hx0 : 0 ≤ S k.T (c + n)) (hx1 : S k.T (c + n) < 128) (hex : S k.T (c + n) = 0 ∨ S k.T (c + n) = 9 ∨ S k.T (c + n) = 10 ∨ S k.T (c + n) = 13 ∨ S k.T (c + n) = 32 ∨ S k.T (c + n) = 62)
    (hQ : ∀ a' w', InU p ub sb a' → gt a' 12 = .bool (hb || decide (0 < n)) → Uri k p c mi mc n wa.heap.size sb L wa v0 l0 n w' → Q (.exit 0) a' w') :
    (Code.loop uBody).wp Tryd.prog Q a wr := by
  refine wp_loop_ghost_k (fun g a1 w1 => ∃ i, g = n - i ∧ InU p ub sb a1 ∧ gt a1 12 = .bool (hb || decide (0 < i)) ∧ Uri k p c mi mc n wa.heap.size sb L wa v0 l0 i w1) n ⟨0, rfl, hiu, by rw [h12]; simp, hU⟩ ?_
  rintro g a1 w1 ⟨i, rfl, hiu1, h121, hU1⟩ J K hJ hK
  have hin := hU1.1
  by_cases hlt : i < n
  · have hn0 := hnil (by omega)
    rcases hur i hlt with h | h
    · exact uri_al hr hfg hsbf hsbs hg hmi hmc hn hiu1 hU1 hlt hn0 h (fun a' w' f h12' hU' => hK _ _ (Handed.intro (n - (i + 1)) (by omega) (hJ _ _ _ ⟨i + 1, rfl, hiu1.next f, by rw [h12']; simp, hU'⟩)))
    · exact uri_colon hr hfg hsbf hsbs hg hmi hmc hn hiu1 hU1 hlt hn0 h (fun a' w' f h12' hU' => hK _ _ (Handed.intro (n - (i + 1)) (by omega) (hJ _ _ _ ⟨i + 1, rfl, hiu1.next f, by rw [h12']; simp, hU'⟩)))
  · obtain rfl : i = n := by omega
    exact uri_exit hr hfg hsbf hsbs hg hmi hmc hn hiu1 hU1 hend hx0 hx1 hex (fun a' N f h12' => hQ _ _ (hiu1.next f) (h12'.trans h121) (hU1.drewN N))
set_option maxHeartbeats 32000000 in
set_option maxRecDepth 100000 in
theorem uri_any (k : Kn) (p c u bp bl mi mc ub n lh ch : Nat) (ah : Option Addr) (z x s0 s1 s2 : Int) (vo : Value) (l0 : List Int) (hb h1 : Bool) (L : List Value) (w : World) (hr : RoundOk k p) (h : Rdr k p c u bp bl L w) (h24 : L[24]? = some (.int .i64 (mi : Nat))) (h26 : L[26]? = some (.int .i64 (mc : Nat))) (h19 : L[19]? = some (.int .i64 z)) (hmi : mi ≤ 1000000) (hmc : mc ≤ 1000000)
    (d0 : decide (0 < (lh : Int)) = hb) (d0' : decide (0 < lh) = hb) (d1 : decide (1 < (lh : Int)) = h1) (d1' : decide (1 < lh) = h1)
    (hhd : h1 = true → ∃ g, ah = some ⟨g, 0, none⟩ ∧ lh = l0.length + 1 ∧ lh ≤ ch ∧ ch ≤ 1000 ∧ ∀ i, i < l0.length → w.cell? ⟨g, 1 + i, none⟩ = some (.int .u8 (l0.getD i 0)))
    (hno : h1 = false → l0 = []) (hbn : hb = true ∨ 1 ≤ n) (hn0 : n = 0 ∨ h1 = false) (hn : n ≤ 12)
    (hur : ∀ i, i < n → Al.al (S k.T (c + i)) = true ∨ S k.T (c + i) = 58) (hx : S k.T (c + n) = x) (hend : Al.al x = false) (hx0 : 0 ≤ x) (hx1 : x < 128) (hex : x = 0 ∨ x = 9 ∨ x = 10 ∨ x = 13 ∨ x = 32 ∨ x = 62)
    (ht : Bk w ub 22 [vo]) (hft : Far k p ub) (hg : 2 < w.heap.size) :
    Calls Tryd.prog 111 #[.pointer (some ⟨p, 0, none⟩), .bool false, .slice ah lh ch, .agg #[.int .i64 s0, .int .i64 s1, .int .i64 s2], .pointer (some ⟨ub, 0, none⟩)] w fun e w' => e = .returned (.bool true) ∧ ∃ v, Bk w' ub 22 [v] ∧ Fresh w.heap.size w' v (l0 ++ (List.range n).map fun j => S k.T (c + j)) ∧ Moved k p c n mi mc L (ub :: k.bs p) w w' := by
  have hfg : ∀ g, w.heap.size ≤ g → Far k p g := fun g hg => far_new h hg
  have hbl := ht.lt
  obtain ⟨sb, HSB⟩ : ∃ sb : Nat, Hid (w.heap.size + 1 = sb) := ⟨_, rfl⟩
  obtain ⟨wa, HWA⟩ : ∃ wa : World, Hid ((w.alloc (.cells #[.int .i64 s0, .int .i64 s1, .int .i64 s2] 74)).alloc (.cells #[.slice none 0 0] 22) = wa) := ⟨_, rfl⟩
  have hba : Below w.heap.size w wa := by rw [← HWA.out]; exact ((Below.refl _ _).alloc (Nat.le_refl _) _).alloc (by simp) _
  have hra : Rdr k p c u bp bl L wa := rdr_new h hba
  have hta : Bk wa ub 22 [vo] := by rw [← HWA.out]; exact (ht.alloc _).alloc _
  have hsa : wa.heap.size = w.heap.size + 2 := by rw [← HWA.out]; simp
  have hsb : Bk wa sb 22 [.slice none 0 0] := by
    have := Bk.new (w.alloc (.cells #[.int .i64 s0, .int .i64 s1, .int .i64 s2] 74)) [.slice none 0 0] 22
    simp only [World.size_alloc] at this
    rw [← HWA.out, ← HSB.out]
    exact this
  have hsbs : w.heap.size + 1 = sb := HSB.out
  have hsbn : sb ≠ ub := by omega
  have hsbf : Far k p sb := hfg sb (by omega)
  have hha : h1 = true → ∃ g, ah = some ⟨g, 0, none⟩ ∧ lh = l0.length + 1 ∧ lh ≤ ch ∧ ch ≤ 1000 ∧ ∀ i, i < l0.length → wa.cell? ⟨g, 1 + i, none⟩ = some (.int .u8 (l0.getD i 0)) := fun e => by
    obtain ⟨g, a, b, d, f, q⟩ := hhd e
    exact ⟨g, a, b, d, f, fun i hi => kp_cell (Kp.of_below (ps := []) hba) (q i hi) (by simp)⟩
  have HFG := Lib.hid hfg
  have HBA := Lib.hid hba
  have HRA := Lib.hid hra
  have HTA := Lib.hid hta
  have HSBK := Lib.hid hsb
  have HSBF := Lib.hid hsbf
  have HHA := Lib.hid hha
  have HNO := Lib.hid hno
  have HBN := Lib.hid hbn
  have HN0 := Lib.hid hn0
  have HR := Lib.hid hr
  have H24 := Lib.hid h24
  have H26 := Lib.hid h26
  have H19 := Lib.hid h19
  have HUR := Lib.hid hur
  have HX := Lib.hid hx
  have HEND := Lib.hid hend
  have HEX := Lib.hid hex
  have HFT := Lib.hid hft
  have hu541 := rdr_u hra
  have HSS := Lib.hid hsbs
  clear h hr h24 h26 h19 hur hx hend hex ht hft hfg hba hra hta hsb hsbf hha hhd hno hbn hn0 hsbs
  go_enter Tryd.func111, Tryd.ntmps111
  try simp only [List.append]
  go_upto_region 3 with fail
  rw [HWA.out, HSB.out]
  go_upto_if 18 with fail
  go_cut [18] from 16 to 22 (fun _ wx => ∃ v0, Rdr k p c u bp bl L wx ∧ Bk wx sb 22 [v0] ∧ Fresh wa.heap.size wx v0 l0 ∧ Kp [sb] wa wx ∧ (h1 = false → v0 = .slice none 0 0))
  case first =>
    cases h1 with
    | false =>
      have HL0 := Lib.hid (HNO.out rfl)
      go_wp2_with fail
      go_meet
      case rel => exact ⟨_, HRA.out, HSBK.out, .inl ⟨rfl, HL0.out⟩, Kp.refl _ _, fun _ => rfl⟩
    | true =>
      obtain ⟨g, rfl, hlh, hlc, hch, hcells⟩ := HHA.out rfl
      have HCELLS := Lib.hid hcells
      clear hcells
      obtain ⟨m, hm⟩ : ∃ m, l0.length = m := ⟨_, rfl⟩
      rw [hm] at hlh
      subst hlh
      have HMM := Lib.hid hm
      have hm1 : 1 ≤ m := by simp at d1; omega
      clear hm
      obtain ⟨ct, ft⟩ := at_ HSBK.out 0 rfl
      have e0 : decide ((1 : Int) < (m : Int) + 1) = true := by simp; omega
      have e4 : (1 : Int) ≤ (m : Int) + 1 := by omega
      have e1 : (1 : Int) ≤ ((m + 1 : Nat) : Int) := by omega
      have e2 : ((m + 1 : Nat) : Int) ≤ (ch : Int) := by omega
      have e3 : ((m + 1 : Nat) : Int) - 1 = (m : Int) := by omega
      have ech : ¬ ch = 1 := by omega
      obtain ⟨i0, hi, hz0, hz1, hz2⟩ := info_parts info5'
      go_upto_region 4 with fail
      refine wp_region_still_tail 3 (by kernel_rfl) (by kernel_rfl) ?_
      simp only [List.take_succ_cons, List.take_zero, List.drop_succ_cons, List.drop_zero]
      repeat still_step
      refine wpStill_nil ?_
      change wpList _ _ _ _ _ wa.drew
      have hcn : ∀ j u, (l0.map (Value.int .u8))[j]? = some u → wa.drew.cell? ((⟨g, 1, none⟩ : Addr).add j) = some u := fun j u hu => by
        rw [List.getElem?_map] at hu
        obtain ⟨y, hy, rfl⟩ := Option.map_eq_some_iff.1 hu
        have hj : j < l0.length := by
          rcases Nat.lt_or_ge j l0.length with h | h
          · exact h
          · rw [List.getElem?_eq_none h] at hy; cases hy
        have e : (⟨g, 1, none⟩ : Addr).add j = ⟨g, 1 + j, none⟩ := by
          unfold Addr.add
          split
          · rename_i h; subst h; rfl
          · rfl
        rw [e]
        have := HCELLS.out j hj
        rw [List.getD_eq_getElem?_getD, hy] at this
        exact this
      have hm1000 : m ≤ 1000 := by omega
      refine wpList_append_own _ rfl (.tmp 19) (.tmp 21) 22 rfl wa.heap.size 5 i0 (.int .u8 0) 1 1 Tryd.underlying22 hi hz0 hz1 hz2 rfl (by decide) (.slice none 0 0) 0 [] rfl ⟨rfl, .inl ⟨rfl, rfl⟩⟩ ⟨g, 1, none⟩ m (ch - 1) (l0.map (Value.int .u8)) rfl (by rw [List.length_map, HMM.out]; omega) hcn (fun u hu => by obtain ⟨y, _, rfl⟩ := List.mem_map.1 hu; rfl) (by unfold maxLen; omega) (by omega) (Nat.le_refl _) ?_
      intro v' w' hown hgr hne
      have hkg : Kp [] wa w' := ⟨hgr.os, hgr.tape, hgr.output, hgr.size, fun i hi _ => hgr.block i hi (by simp [Value.ownBlock])⟩
      have hcells2 := fun g hg => World.ownsRow.cells hown (g := g) hg
      obtain ⟨_, ⟨rfl, h0⟩ | ⟨g2, cap, cur, rfl, hbase, hheap, hle, hcap, hsize, htake⟩⟩ := hown
      · omega
      rw [Nat.zero_add] at hle
      have hfr : Fresh wa.heap.size w' (.slice (some ⟨g2, 0, none⟩) (0 + m) cap) l0 := by
        refine .inr ⟨g2, cap, by rw [HMM.out, Nat.zero_add], hbase, by rw [HMM.out]; exact hle, hcap, fun i hi => ?_⟩
        have h := hcells2 g2 rfl i (.int .u8 (l0.getD i 0)) (by
          rw [List.nil_append, List.getElem?_map, List.getD_eq_getElem?_getD, List.getElem?_eq_getElem hi]; rfl)
        have e : (⟨g2, 0, none⟩ : Addr).add i = ⟨g2, 0 + i, none⟩ := by
          unfold Addr.add
          split
          · rename_i h; subst h; rfl
          · rfl
        rw [e] at h
        exact h
      rw [Nat.zero_add] at hfr
      have hrw : Rdr k p c u bp bl L w' := rdr_far HRA.out hkg (by simp)
      have hsw : Bk w' sb 22 [.slice none 0 0] := HSBK.out.kp hkg (by simp)
      clear ct ft
      obtain ⟨ct, ft⟩ := at_ hsw 0 rfl
      have HFR := Lib.hid hfr
      have HRW := Lib.hid hrw
      have HSW := Lib.hid hsw
      have HKG := Lib.hid hkg
      have hg2 : sb ≠ g2 := by have := HSS.out; omega
      clear hfr hrw hsw hkg hcells2 hheap htake hsize hgr hne hcn
      go_wp2_with fail
      go_meet
      case rel =>
        have hks : Kp [sb] w' (w'.setCell ⟨sb, 0, none⟩ (.slice (some ⟨g2, 0, none⟩) m cap)) := (Kp.refl _ _).setCell sb 0 _ (by simp)
        exact ⟨_, rdr_far HRW.out hks (fun b hb2 => by simp at hb2; subst hb2; exact HSBF.out), HSW.out.set 0 _, HFR.out.kp hks (fun b hb2 => by have := HSS.out; simp; omega), (HKG.out.mono (by simp)).trans hks, fun e => by cases e⟩
  case rest =>
    obtain ⟨v0, hr0, hs0, hf0, hk0, hnil⟩ := hcut
    obtain ⟨c18, f18⟩ := at_ hr0.pb 18 hr0.at18
    obtain ⟨ubl, hubu, HUB2⟩ : ∃ b : Bool, decide ((u : Int) < 1) = b ∧ Hid (b = false → 1 ≤ u) := ⟨_, rfl, Lib.hid fun h => by simp at h; omega⟩
    have hg0 : 2 < wc.heap.size := by have := hk0.size; omega
    have hk0' : Kp (sb :: k.bs p) wa wc := hk0.mono (by simp)
    have HR0 := Lib.hid hr0
    have HS0 := Lib.hid hs0
    have HF0 := Lib.hid hf0
    have HK0 := Lib.hid hk0'
    have HNIL := Lib.hid hnil
    clear hr0 hs0 hf0 hk0 hk0' hnil HSBK
    go_upto_region 5 with fail
    go_cut [32] from 23 to 32 (fun s32 wx => s32 = .bool false ∧ Uri k p c mi mc n wa.heap.size sb L wa v0 l0 0 wx)
    case first =>
      cases ubl with
      | false =>
        have hu1 := HUB2.out rfl
        go_wp2_with fail
        go_meet
        case rel => exact ⟨rfl, Nat.zero_le _, ⟨⟨u, bp, bl, L, HR0.out, hu1, H24.out, H26.out, ⟨z, H19.out⟩, fun _ _ _ _ _ => rfl⟩, HK0.out⟩, v0, HS0.out, .inl ⟨rfl, rfl, HF0.out⟩⟩
      | true =>
        go_wp2_with fail
        refine (ub_any k p c u bp bl 1 L wc HR.out HR0.out (by omega) (by omega) hg0).mono ?_
        rintro e w3 ⟨rfl, hupd⟩
        have HU := Lib.hid (Uri.upd (i := 0) (n := n) (v := v0) (v0 := v0) (l0 := l0) (lo := wa.heap.size) (sb := sb) (w0 := wa) hupd H24.out H26.out H19.out (fun _ _ _ _ _ => rfl) HK0.out (Nat.zero_le _) HS0.out (.inl ⟨rfl, rfl, HF0.out⟩) (fun g hg => (HFG.out g (by omega)).1) HSBF.out.1)
        clear hupd
        go_wp2_with fail
        go_meet
        case rel => exact ⟨rfl, HU.out⟩
    case rest =>
      obtain ⟨rfl, hst⟩ := hcut
      have HST := Lib.hid hst
      clear hst hubu c18 f18 HR0 HS0 HF0 HK0
      go_wp2_with fail
      refine uri_loop (ub := ub) (hb := hb) HR.out (fun g hg => HFG.out g (by omega)) HSBF.out (by have := HSS.out; omega) (by omega) hmi hmc hn ⟨rfl, rfl, rfl, rfl, rfl⟩ rfl HST.out (fun h => HNIL.out (by rcases HN0.out with e | e; omega; exact e)) HUR.out (by rw [HX.out]; exact HEND.out) (by rw [HX.out]; exact hx0) (by rw [HX.out]; exact hx1) (by rw [HX.out]; exact HEX.out) ?_
      intro a' w' hiu h12 hU
      obtain ⟨hin, ⟨⟨u1, bp1, bl1, L1, hr1, hu1, h241, h261, ⟨z1, h191⟩, ho1⟩, hk1⟩, v, hv1, hv2⟩ := hU
      have hfr : Fresh wa.heap.size w' v (l0 ++ (List.range n).map fun j => S k.T (c + j)) := by
        rcases hv2 with ⟨hn00, rfl, hf⟩ | ⟨h1i, hv2⟩
        · rw [hn00]; simpa using hf
        · rw [HNO.out (by rcases HN0.out with h | h; omega; exact h), List.nil_append]
          exact hv2.fresh
      have hb12 : (hb || decide (0 < n)) = true := by
        rcases HBN.out with h | h
        · rw [h]; rfl
        · rw [Bool.or_eq_true]; right; simp; omega
      rw [hb12] at h12
      obtain ⟨a4, n4, k4, rfl⟩ := hfr.slice
      have hT : Bk w' ub 22 [vo] := HTA.out.kp hk1 (fun hh => by
        simp only [List.mem_cons] at hh
        rcases hh with h | h
        · exact hsbn h.symm
        · exact HFT.out.1 h)
      obtain ⟨ct, ft⟩ := at_ hv1 0 rfl
      obtain ⟨cu, fu⟩ := at_ hT 0 rfl
      have HTT := Lib.hid hT
      have HFR := Lib.hid hfr
      have HR1 := Lib.hid hr1
      have H241 := Lib.hid h241
      have H261 := Lib.hid h261
      have H191 := Lib.hid h191
      have HO1 := Lib.hid ho1
      have HK1 := Lib.hid hk1
      have hsz1 := hk1.size
      clear hr1 h241 h261 h191 ho1 hk1 hT hfr hv1 hv2 hb12
      rw [lit340 a' hiu.size hiu.defers, hiu.s0, hiu.s4, hiu.s11, h12]
      clear hiu h12
      go_wp2_with fail
      go_ret
      have hks : Kp [ub] w' (w'.setCell ⟨ub, 0, none⟩ (.slice a4 n4 k4)) := (Kp.refl _ _).setCell ub 0 _ (by simp)
      refine ⟨rfl, _, HTT.out.set 0 (.slice a4 n4 k4), ?_, ⟨⟨u1, bp1, bl1, L1, ?_, hu1, H241.out, H261.out, ⟨z1, H191.out⟩, HO1.out⟩, ?_⟩⟩
      · exact (HFR.out.kp hks (fun b hb2 => by simp; omega)).low (by omega)
      · exact rdr_far HR1.out hks (fun b hb2 => by simp at hb2; subst hb2; exact HFT.out)
      · refine Kp.trans_new (w1 := w') ?_ hks (fun b hb2 => .inl (by simp at hb2; simp [hb2]))
        refine Kp.trans_new ((Kp.of_below (ps := ub :: k.bs p) HBA.out)) HK1.out (fun b hb2 => ?_)
        simp only [List.mem_cons] at hb2
        rcases hb2 with rfl | h
        · exact .inr (by have := HSS.out; omega)
        · exact .inl (List.mem_cons_of_mem _ h)
end Go.Proofs.YtocbbekciphjgaaDoor.Sc
