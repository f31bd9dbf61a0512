/- ScB, ScC: parts of the proof, one behind another. -/
import Derived.Test.YtocbbekciphjgaaDoorMz6
import Derived.Test.YtocbbekciphjgaaDoorMz13
/- ScB -/
/- A number of a version is read (yaml_parser_scan_version_directive_number): the walk. -/
namespace Go.Proofs.YtocbbekciphjgaaDoor.Sc
open Go.RowKit Go.Proofs.YtocbbekciphjgaaDoor.Rdp Go.Proofs.YtocbbekciphjgaaDoor.Pa
set_option linter.unusedVariables false
set_option linter.unusedSimpArgs false
theorem quiet_add_same {P : Program} {f : FuncId} {args : Array Value} {w : World} {a n : Nat} {v : Value}
    (h : Calls P f args (w.drewN (a + n)) fun e w' => e = .returned v ∧ w' = w.drewN (a + n)) :
    Calls P f args (w.drewN (a + n)) fun e w'' => e = .returned v ∧ ∃ m, w'' = w.drewN (a + m) :=
  h.mono fun _ _ ⟨he, hm⟩ => ⟨he, n, hm⟩
/-- Blocks of others have turned, or new ones been made. -/
theorem rdr_far {k : Kn} {p c u bp bl : Nat} {L : List Value} {w w' : World} {ps : List Nat} (h : Rdr k p c u bp bl L w) (hk : Kp ps w w') (hp : ∀ b ∈ ps, b ∉ k.bs p ∧ b ≠ 2 ∧ ∀ o, k.A = some ⟨b, o, none⟩ → k.T.length = 0) : Rdr k p c u bp bl L w' := by
  obtain ⟨rl, rpos, ip, eof, RL, BL, st, h1, h22, hm⟩ := h.ex
  have n0 : ∀ b, b ∈ k.bs p → b ∉ ps := fun b hb hh => (hp b hh).1 hb
  refine ⟨h.ok, h.at16, h.bd, rl, rpos, ip, eof, RL, BL, st, ⟨h1.pb.kp hk (n0 p (k.mp p)), h1.plen, h1.rb.kp hk (n0 _ (k.mr p)), h1.rlen, h1.qb.kp hk (n0 _ (k.mq p)), h1.qlen, h1.qall, h1.inp.kp hk (fun b o e h0 hh => ?_), (hk.cell (x := ⟨2, 0, none⟩) (World.block_lt_of_cell? w ⟨2, 0, none⟩ h1.ev) (fun hh => (hp 2 hh).2.1 rfl)).trans h1.ev, h1.at11, h1.at13, h1.at14, h1.at15, h1.at17, h1.at18, h1.at20, h1.at21, h1.at23, h1.hip, h1.hrl, h1.hrpos, h1.hraw, h1.hbp, h1.hbl, h1.buf, h1.raw⟩, h22, hm⟩
  have := (hp b hh).2.2 o e
  omega
theorem rdr_new {k : Kn} {p c u bp bl : Nat} {L : List Value} {w w' : World} (h : Rdr k p c u bp bl L w) (hb : Below w.heap.size w w') : Rdr k p c u bp bl L w' := rdr_far h (Kp.of_below (ps := []) hb) (by simp)
/-- The number that digits tell. -/
def numv (T : List Int) (c : Nat) : Nat → Int
  | 0 => 0
  | i + 1 => numv T c i * 10 + (S T (c + i) - 48)
/-- What is left when characters have been passed over. -/
structure Moved (k : Kn) (p c n mi mc : Nat) (L : List Value) (ps : List Nat) (w w' : World) : Prop where
  ex : ∃ u bp bl L', Rdr k p (c + n) u bp bl L' w' ∧ 1 ≤ u ∧ L'[24]? = some (.int .i64 (mi + n : Nat)) ∧ L'[26]? = some (.int .i64 (mc + n : Nat)) ∧ (∃ z, L'[19]? = some (.int .i64 z)) ∧ (∀ j, rdOff j → j ≠ 19 → j ≠ 24 → j ≠ 26 → L'[j]? = L[j]?)
  kp : Kp ps w w'
theorem digit_cw {x : Int} (h : isDigit x = true) : 48 ≤ x ∧ x ≤ 57 ∧ cw x = 1 := by
  unfold isDigit at h
  rw [Bool.and_eq_true] at h
  have h1 := of_decide_eq_true h.1
  have h2 := of_decide_eq_true h.2
  refine ⟨h1, h2, ?_⟩
  unfold cw
  rw [if_pos (by omega)]
theorem rdr_u {k : Kn} {p c u bp bl : Nat} {L : List Value} {w : World} (h : Rdr k p c u bp bl L w) : u ≤ 541 := by
  have h1 := h.ready u (Nat.le_refl _)
  have h2 := adv_ge k.T c u
  have := h.small
  omega
/-- Where the scanner stands: i characters have been passed over, and one lies ready. -/
def Stood (k : Kn) (p c mi mc nb : Nat) (v : Int) (L : List Value) (w0 : World) (i : Nat) (w : World) : Prop :=
  Moved k p c i mi mc L (nb :: k.bs p) w0 w ∧ w.cell? ⟨nb, 0, none⟩ = some (.int .i8 v) ∧ w.frozen? ⟨nb, 0, none⟩ = false ∧ w0.heap.size ≤ w.heap.size
theorem Stood.drewN {k : Kn} {p c mi mc nb : Nat} {v : Int} {L : List Value} {w0 : World} {i : Nat} {w : World} (h : Stood k p c mi mc nb v L w0 i w) (d : Nat) : Stood k p c mi mc nb v L w0 i (w.drewN d) := by
  obtain ⟨⟨⟨u, bp, bl, L', h1, h2⟩, hk⟩, h3⟩ := h
  exact ⟨⟨⟨u, bp, bl, L', h1.drewN d, h2⟩, hk.drewN d⟩, h3⟩
/-- Behind a filling of the buffer. -/
theorem stood_upd {k : Kn} {p c mi mc nb i u n : Nat} {v z : Int} {L L1 : List Value} {w0 w w' : World} (hu : Upd k p (c + i) u n L1 w w') (h24 : L1[24]? = some (.int .i64 (mi + i : Nat))) (h26 : L1[26]? = some (.int .i64 (mc + i : Nat))) (h19 : L1[19]? = some (.int .i64 z)) (ho : ∀ j, rdOff j → j ≠ 19 → j ≠ 24 → j ≠ 26 → L1[j]? = L[j]?)
    (hk : Kp (nb :: k.bs p) w0 w) (hc : w.cell? ⟨nb, 0, none⟩ = some (.int .i8 v)) (hf : w.frozen? ⟨nb, 0, none⟩ = false) (hs : w0.heap.size ≤ w.heap.size) (hnb : nb ∉ k.bs p) : Stood k p c mi mc nb v L w0 i w' := by
  obtain ⟨u', bp', bl', L', h1, h2, h3, h4, h5, h6, h7⟩ := hu
  have hlt : nb < w.heap.size := World.block_lt_of_cell? w ⟨nb, 0, none⟩ hc
  have hblk := h6.block nb hlt hnb
  refine ⟨⟨⟨u', bp', bl', L', h1, h2, ?_, ?_, ⟨z, ?_⟩, fun j j1 j2 j3 j4 => (h5 j j1).trans (ho j j1 j2 j3 j4)⟩, hk.trans (h6.mono fun x hx => List.mem_cons_of_mem _ hx)⟩, ?_, ?_, by omega⟩
  · exact (h5 24 (by unfold rdOff; omega)).trans h24
  · exact (h5 26 (by unfold rdOff; omega)).trans h26
  · exact (h5 19 (by unfold rdOff; omega)).trans h19
  · rw [World.cell?_of_block (w := w) (a := ⟨nb, 0, none⟩) hblk]; exact hc
  · rw [World.frozen?_of_block (w := w) (a := ⟨nb, 0, none⟩) hblk]; exact hf
set_option maxHeartbeats 16000000 in
set_option maxRecDepth 100000 in
theorem num_any (k : Kn) (p c u bp bl mi ml mc n nb : Nat) (z v0 s0 s1 s2 : Int) (L : List Value) (w : World) (hr : RoundOk k p) (h : Rdr k p c u bp bl L w) (h24 : L[24]? = some (.int .i64 (mi : Nat))) (h26 : L[26]? = some (.int .i64 (mc : Nat))) (h19 : L[19]? = some (.int .i64 z)) (hmi : mi ≤ 1000000000) (hmc : mc ≤ 1000000000)
    (hn1 : 1 ≤ n) (hn2 : n ≤ 2) (hd : ∀ i, i < n → isDigit (S k.T (c + i)) = true) (hend : isDigit (S k.T (c + n)) = false) (hnb : w.cell? ⟨nb, 0, none⟩ = some (.int .i8 v0)) (hnf : w.frozen? ⟨nb, 0, none⟩ = false) (hfar : nb ∉ k.bs p ∧ nb ≠ 2 ∧ ∀ o, k.A = some ⟨nb, o, none⟩ → k.T.length = 0) (hg : 2 < w.heap.size) :
    Calls Tryd.prog 104 #[.pointer (some ⟨p, 0, none⟩), .agg #[.int .i64 s0, .int .i64 s1, .int .i64 s2], .pointer (some ⟨nb, 0, none⟩)] w fun e w' => e = .returned (.bool true) ∧ Moved k p c n mi mc L (nb :: k.bs p) w w' ∧ w'.cell? ⟨nb, 0, none⟩ = some (.int .i8 (numv k.T c n)) ∧ w'.frozen? ⟨nb, 0, none⟩ = false := by
  have hnbl : nb < w.heap.size := World.block_lt_of_cell? w ⟨nb, 0, none⟩ hnb
  have hb0 : Below w.heap.size w (w.alloc (.cells #[.int .i64 s0, .int .i64 s1, .int .i64 s2] 74)) := (Below.refl _ _).alloc (Nat.le_refl _) _
  have hr0 := rdr_new h hb0
  have hd0 : (w.alloc (.cells #[.int .i64 s0, .int .i64 s1, .int .i64 s2] 74)).cell? ⟨nb, 0, none⟩ = some (.int .i8 v0) := by rw [hb0.cell (p := ⟨nb, 0, none⟩) hnbl]; exact hnb
  have hf0 : (w.alloc (.cells #[.int .i64 s0, .int .i64 s1, .int .i64 s2] 74)).frozen? ⟨nb, 0, none⟩ = false := by rw [hb0.frozen (p := ⟨nb, 0, none⟩) hnbl]; exact hnf
  have hg0 : 2 < (w.alloc (.cells #[.int .i64 s0, .int .i64 s1, .int .i64 s2] 74)).heap.size := by simp; omega
  have hk0 : Kp (nb :: k.bs p) w (w.alloc (.cells #[.int .i64 s0, .int .i64 s1, .int .i64 s2] 74)) := Kp.of_below hb0
  obtain ⟨wa, HWA⟩ : ∃ wa : World, Hid (w.alloc (.cells #[.int .i64 s0, .int .i64 s1, .int .i64 s2] 74) = wa) := ⟨_, rfl⟩
  rw [HWA.out] at hr0 hd0 hf0 hg0 hk0
  have HR0 := Lib.hid hr0
  have HD0 := Lib.hid hd0
  have HF0 := Lib.hid hf0
  have HK0 := Lib.hid hk0
  have HRR := Lib.hid hr
  have H24 := Lib.hid h24
  have H26 := Lib.hid h26
  have H19 := Lib.hid h19
  have HDG := Lib.hid hd
  have HEND := Lib.hid hend
  have HFAR := Lib.hid hfar
  have hu541 := rdr_u h
  obtain ⟨c18, f18⟩ := at_ hr0.pb 18 hr0.at18
  clear h h24 h26 h19 hd hend hnb hnf hfar hr0 hd0 hf0 hk0 hr hb0
  have hfin : Hid (∃ b : Bool, decide ((u : Int) < 1) = b ∧ (b = false → 1 ≤ u)) := ⟨_, rfl, fun h => by simp at h; omega⟩
  obtain ⟨ub, hub, hub2⟩ := hfin.out
  have HUB2 := Lib.hid hub2
  clear hub2 hfin
  go_enter Tryd.func104, Tryd.ntmps104
  go_upto_region 1 with fail
  rw [HWA.out]
  go_cut [18] from 9 to 18 (fun s18 wx => s18 = .bool false ∧ Stood k p c mi mc nb v0 L w 0 wx)
  case first =>
    cases ub with
    | false =>
      have hu1 := HUB2.out rfl
      go_wp2_with fail
      go_meet
      case rel => exact ⟨rfl, ⟨⟨u, bp, bl, L, HR0.out, hu1, H24.out, H26.out, ⟨z, H19.out⟩, fun _ _ _ _ _ => rfl⟩, HK0.out⟩, HD0.out, HF0.out, HK0.out.size⟩
    | true =>
      go_wp2_with fail
      refine (ub_any k p c u bp bl 1 L wa HRR.out HR0.out (by omega) (by omega) hg0).mono ?_
      rintro e w1 ⟨rfl, hupd⟩
      have HU := Lib.hid (stood_upd (i := 0) (v := v0) hupd H24.out H26.out H19.out (fun _ _ _ _ _ => rfl) HK0.out HD0.out HF0.out HK0.out.size HFAR.out.1)
      clear hupd
      go_wp2_with fail
      go_meet
      case rel => exact ⟨rfl, HU.out⟩
  case rest =>
    obtain ⟨rfl, hst⟩ := hcut
    have HST := Lib.hid hst
    clear hst hub c18 f18 HR0 HD0 HF0 HK0 H24 H26 H19
    go_wp2_with fail
    go_loopw [7, 8] (fun s7 s8 wr => ∃ i : Nat, i ≤ n ∧ s7 = .int .i8 (numv k.T c i) ∧ s8 = .int .i8 i ∧ Stood k p c mi mc nb v0 L w i wr) (fun _ s8 _ => n - (intOf s8).toNat)
    case atStart => exact ⟨0, Nat.zero_le _, rfl, rfl, HST.out⟩
    obtain ⟨i, hin, rfl, rfl, ⟨⟨⟨u1, bp1, bl1, L1, hr1, hu1, h241, h261, ⟨z1, h191⟩, ho1⟩, hk1⟩, hd1, hf1, hsz1⟩⟩ := hrel
    have hrd1 := hr1.ready 1 hu1
    have hsm1 := hr1.small
    have hge1 := adv_ge k.T (c + i) 1
    have hby := hr1.byte 0 (by omega)
    rw [Nat.add_zero, Nat.add_zero] at hby
    obtain ⟨x, HX⟩ : ∃ x, Hid (S k.T (c + i) = x) := ⟨_, rfl⟩
    rw [HX.out] at hby
    have hdc : ∀ N, Calls Tryd.prog 120 #[.slice (some ⟨k.q, 0, none⟩) bl1 1536, .int .i64 bp1] (wr.drewN N) fun e w' => e = .returned (.bool (isDigit x)) ∧ w' = wr.drewN N := fun N => digit_any k.q bp1 bl1 1536 x (wr.drewN N) (by omega) (by omega) hby
    obtain ⟨c16, f16⟩ := at_ hr1.pb 16 hr1.at16
    obtain ⟨c17, f17⟩ := at_ hr1.pb 17 hr1.at17
    have j1 : (bp1 : Int) < (bl1 : Int) := by omega
    have HR1 := Lib.hid hr1
    have H241 := Lib.hid h241
    have H261 := Lib.hid h261
    have H191 := Lib.hid h191
    have HO1 := Lib.hid ho1
    have HK1 := Lib.hid hk1
    have HD1 := Lib.hid hd1
    have HF1 := Lib.hid hf1
    by_cases hlt : i < n
    · have hdi := HDG.out i hlt
      rw [HX.out] at hdi
      obtain ⟨x1, x2, x3⟩ := digit_cw hdi
      rw [hdi] at hdc
      have HDC := Lib.hid hdc
      have hac : ∀ N, Calls Tryd.prog 121 #[.slice (some ⟨k.q, 0, none⟩) bl1 1536, .int .i64 bp1] (wr.drewN N) fun e w' => e = .returned (.int .i64 (x - 48)) ∧ w' = wr.drewN N := fun N => asdigit_any k.q bp1 bl1 1536 x (wr.drewN N) (by omega) (by omega) (by omega) (by omega) hby
      have HAC := Lib.hid hac
      have hnv : 0 ≤ numv k.T c i ∧ numv k.T c i ≤ 9 := by
        have hi : i = 0 ∨ i = 1 := by omega
        rcases hi with rfl | rfl
        · exact ⟨Int.le_refl _, by unfold numv; omega⟩
        · have := digit_cw (HDG.out 0 (by omega))
          unfold numv numv
          omega
      have HXC := Lib.hid x3
      obtain ⟨y, HY⟩ : ∃ y, Hid (numv k.T c i = y) := ⟨_, rfl⟩
      rw [HY.out] at hnv ⊢
      obtain ⟨y0, y9⟩ := hnv
      obtain ⟨v, rfl⟩ : ∃ v, u1 = v + 1 := ⟨u1 - 1, by omega⟩
      have i2 : (i : Int) ≤ 1 := by omega
      have i3 : (0 : Int) ≤ (i : Int) := by omega
      have i4 : decide (2 < (i : Int) + 1) = false := by simp; omega
      have hv541 := rdr_u hr1
      have hg1 : 2 < wr.heap.size := by omega
      clear hr1 h241 h261 h191 ho1 hk1 hd1 hf1 hdc hac hby hdi x3 hrd1 hge1
      go_wp2_with fail
      go_quiet ((go_at_call 120; exact Calls.quiet_of_same (HDC.out _)))
      go_wp2_with fail
      go_quiet ((go_at_call 121; exact quiet_add_same (HAC.out _)))
      go_wp2_with fail
      refine (skip_any k p (c + i) v bp1 bl1 (mi + i) (mc + i) z1 L1 _ (HR1.out.drewN _) H241.out H261.out H191.out (by omega) (by omega) (by omega)).mono ?_
      rintro e w2 ⟨rfl, hsk⟩
      obtain ⟨L2, hr2, h242, h262, ⟨z2, h192⟩, ho2⟩ := hsk.ex
      have hnx : nx k.T (c + i) = c + (i + 1) := by unfold nx; rw [HX.out, HXC.out]; omega
      rw [hnx] at hr2
      have hpn : nb ∉ [p] := by
        have := HFAR.out.1
        unfold Kn.bs at this
        simp at this ⊢
        omega
      have hkp2 : Kp [p] wr w2 := ((Kp.refl _ wr).drewN _).trans hsk.kp
      have hk2 : Kp (nb :: k.bs p) w w2 := HK1.out.trans (hkp2.mono fun b hb => by simp at hb; subst hb; exact List.mem_cons_of_mem _ (k.mp b))
      have hnl : nb < wr.heap.size := World.block_lt_of_cell? wr ⟨nb, 0, none⟩ HD1.out
      have hd2 : w2.cell? ⟨nb, 0, none⟩ = some (.int .i8 v0) := by rw [hkp2.cell (x := ⟨nb, 0, none⟩) hnl hpn]; exact HD1.out
      have hf2 : w2.frozen? ⟨nb, 0, none⟩ = false := by rw [World.frozen?_of_block (w := wr) (a := ⟨nb, 0, none⟩) (hkp2.block nb hnl hpn)]; exact HF1.out
      have hs2 : w2.heap.size = wr.heap.size := hsk.size
      have ho3 : ∀ j, rdOff j → j ≠ 19 → j ≠ 24 → j ≠ 26 → L2[j]? = L[j]? := fun j j1 j2 j3 j4 => by
        rw [ho2 j (by unfold rdOff at j1; omega) (by unfold rdOff at j1; omega) j2 j3 j4]
        exact HO1.out j j1 j2 j3 j4
      have hg2 : 2 < w2.heap.size := by omega
      have hval : Hid (numv k.T c (i + 1) = y * 10 + (x - 48)) := by
        have : numv k.T c (i + 1) = numv k.T c i * 10 + (S k.T (c + i) - 48) := rfl
        rw [this, HY.out, HX.out]
        exact Lib.hid rfl
      obtain ⟨c18, f18⟩ := at_ hr2.pb 18 hr2.at18
      have HR2 := Lib.hid hr2
      have H242 := Lib.hid h242
      have H262 := Lib.hid h262
      have H192 := Lib.hid h192
      have HO3 := Lib.hid ho3
      have HK2 := Lib.hid hk2
      have HD2 := Lib.hid hd2
      have HF2 := Lib.hid hf2
      clear hsk hr2 h242 h262 h192 ho2 ho3 hnx hkp2 hk2 hd2 hf2 hnl hpn c16 c17 f16 f17
      by_cases hv0 : v = 0
      · have hub : decide ((v : Int) < 1) = true := by simp; omega
        clear hv0
        go_wp2_with fail
        refine (ub_any k p (c + (i + 1)) v _ bl1 1 L2 w2 HRR.out HR2.out (by omega) (by omega) hg2).mono ?_
        rintro e w3 ⟨rfl, hupd⟩
        have HU := Lib.hid (stood_upd (i := i + 1) (v := v0) hupd H242.out H262.out H192.out HO3.out HK2.out HD2.out HF2.out (by omega) HFAR.out.1)
        clear hupd
        go_wp2_with fail
        go_roundw
        case rel => exact ⟨i + 1, by omega, by rw [hval.out], by go_num, HU.out⟩
        case measure => simp [intOf]; omega
      · have hub : decide ((v : Int) < 1) = false := by simp; omega
        have HV := Lib.hid hv0
        clear hv0
        go_wp2_with fail
        go_roundw
        case rel => exact ⟨i + 1, by omega, by rw [hval.out], by go_num, ⟨⟨⟨v, _, bl1, L2, HR2.out, by have := HV.out; omega, H242.out, H262.out, ⟨z2, H192.out⟩, HO3.out⟩, HK2.out⟩, HD2.out, HF2.out, by omega⟩⟩
        case measure => simp [intOf]; omega
    · obtain rfl : i = n := by omega
      rw [← HX.out, HEND.out] at hdc
      have HDC := Lib.hid hdc
      have b0 : ((i : Int) == 0) = false := by rw [beq_eq_false_iff_ne]; omega
      obtain ⟨y, HY⟩ : ∃ y, Hid (numv k.T c i = y) := ⟨_, rfl⟩
      rw [HY.out]
      have hr1' := hr1
      clear hr1 h241 h261 h191 ho1 hk1 hdc hby hrd1 hge1
      have HR1' := Lib.hid hr1'
      clear hr1'
      go_wp2_with fail
      go_quiet ((go_at_call 120; exact Calls.quiet_of_same (HDC.out _)))
      go_wp2_with fail
      go_ret
      have hkn : Kp [nb] wr ((wr.drewN nq).setCell ⟨nb, 0, none⟩ (.int .i8 y)) := ((Kp.refl _ wr).drewN nq).setCell nb 0 _ (by simp)
      have hdn : (wr.drewN nq).cell? ⟨nb, 0, none⟩ = some (.int .i8 v0) := HD1.out
      refine ⟨rfl, ⟨⟨u1, bp1, bl1, L1, rdr_far HR1'.out hkn (fun b hb => ?_), hu1, H241.out, H261.out, ⟨z1, H191.out⟩, HO1.out⟩, HK1.out.trans (hkn.mono fun b hb => by simp at hb; subst hb; simp)⟩, by rw [HY.out]; exact World.cell?_setCell_same _ _ _ hdn, ?_⟩
      · simp at hb
        subst hb
        exact HFAR.out
      · rw [World.frozen?_setCell]; exact HF1.out
end Go.Proofs.YtocbbekciphjgaaDoor.Sc
/- ScC -/
/- A version is read (yaml_parser_scan_version_directive_value): the walk, where it is one. -/
namespace Go.Proofs.YtocbbekciphjgaaDoor.Sc
open Go.RowKit Go.Proofs.YtocbbekciphjgaaDoor.Rdp Go.Proofs.YtocbbekciphjgaaDoor.Pa
set_option linter.unusedVariables false
set_option linter.unusedSimpArgs false
theorem Moved.drewN {k : Kn} {p c n mi mc : Nat} {L : List Value} {ps : List Nat} {w w' : World} (h : Moved k p c n mi mc L ps w w') (d : Nat) : Moved k p c n mi mc L ps w (w'.drewN d) := by
  obtain ⟨⟨u, bp, bl, L', h1, h2⟩, hk⟩ := h
  exact ⟨⟨u, bp, bl, L', h1.drewN d, h2⟩, hk.drewN d⟩
/-- Behind a filling of the buffer. -/
theorem moved_upd {k : Kn} {p c mi mc i u n : Nat} {z : Int} {L L1 : List Value} {ps : List Nat} {w0 w w' : World} (hu : Upd k p (c + i) u n L1 w w') (h24 : L1[24]? = some (.int .i64 (mi + i : Nat))) (h26 : L1[26]? = some (.int .i64 (mc + i : Nat))) (h19 : L1[19]? = some (.int .i64 z)) (ho : ∀ j, rdOff j → j ≠ 19 → j ≠ 24 → j ≠ 26 → L1[j]? = L[j]?)
    (hk : Kp ps w0 w) (hps : ∀ b, b ∈ k.bs p → b ∈ ps) : Moved k p c i mi mc L ps w0 w' := by
  obtain ⟨u', bp', bl', L', h1, h2, h3, h4, h5, h6, h7⟩ := hu
  refine ⟨⟨u', bp', bl', L', h1, h2, ?_, ?_, ⟨z, ?_⟩, fun j j1 j2 j3 j4 => (h5 j j1).trans (ho j j1 j2 j3 j4)⟩, hk.trans (h6.mono hps)⟩
  · exact (h5 24 (by unfold rdOff; omega)).trans h24
  · exact (h5 26 (by unfold rdOff; omega)).trans h26
  · exact (h5 19 (by unfold rdOff; omega)).trans h19
/-- Two ways on, one behind the other. -/
theorem Moved.trans {k : Kn} {p c i j mi mc : Nat} {L L1 : List Value} {ps : List Nat} {w0 w1 w2 : World} (h : ∀ x, rdOff x → x ≠ 19 → x ≠ 24 → x ≠ 26 → L1[x]? = L[x]?) (hk : Kp ps w0 w1) (h2 : Moved k p (c + i) j (mi + i) (mc + i) L1 ps w1 w2) : Moved k p c (i + j) mi mc L ps w0 w2 := by
  obtain ⟨⟨u, bp, bl, L', h1, h3, h4, h5, h6, h7⟩, hk2⟩ := h2
  rw [Nat.add_assoc] at h1 h4 h5
  exact ⟨⟨u, bp, bl, L', h1, h3, h4, h5, h6, fun x x1 x2 x3 x4 => (h7 x x1 x2 x3 x4).trans (h x x1 x2 x3 x4)⟩, hk.trans hk2⟩
/-- What a byte behind which nothing is written is. -/
theorem kp_cell {ps : List Nat} {w w' : World} (h : Kp ps w w') {b o : Nat} {v : Value} (hc : w.cell? ⟨b, o, none⟩ = some v) (hb : b ∉ ps) : w'.cell? ⟨b, o, none⟩ = some v := by
  rw [h.cell (x := ⟨b, o, none⟩) (World.block_lt_of_cell? w ⟨b, o, none⟩ hc) hb]; exact hc
theorem kp_frozen {ps : List Nat} {w w' : World} (h : Kp ps w w') {b o : Nat} {v : Value} (hc : w.cell? ⟨b, o, none⟩ = some v) (hf : w.frozen? ⟨b, o, none⟩ = false) (hb : b ∉ ps) : w'.frozen? ⟨b, o, none⟩ = false := by
  rw [World.frozen?_of_block (w := w) (a := ⟨b, o, none⟩) (h.block b (World.block_lt_of_cell? w ⟨b, o, none⟩ hc) hb)]; exact hf
/-- A block that has nothing to do with a parser's reader. -/
def Far (k : Kn) (p b : Nat) : Prop := b ∉ k.bs p ∧ b ≠ 2 ∧ ∀ o, k.A = some ⟨b, o, none⟩ → k.T.length = 0
set_option maxHeartbeats 16000000 in
set_option maxRecDepth 100000 in
theorem blanks_any (k : Kn) (p c u bp bl mi mc s n1 n2 m1 m2 : Nat) (z v1 v2 s0 s1 s2 : Int) (L : List Value) (w : World) (hr : RoundOk k p) (h : Rdr k p c u bp bl L w) (h24 : L[24]? = some (.int .i64 (mi : Nat))) (h26 : L[26]? = some (.int .i64 (mc : Nat))) (h19 : L[19]? = some (.int .i64 z)) (hmi : mi ≤ 1000000) (hmc : mc ≤ 1000000) (hs : s ≤ 1000000)
    (hbl : ∀ i, i < s → S k.T (c + i) = 32) (hn1 : 1 ≤ n1) (hn2 : n1 ≤ 2) (hd1 : ∀ i, i < n1 → isDigit (S k.T (c + s + i)) = true) (hdot : S k.T (c + s + n1) = 46) (hn3 : 1 ≤ n2) (hn4 : n2 ≤ 2) (hd2 : ∀ i, i < n2 → isDigit (S k.T (c + s + n1 + 1 + i)) = true) (hend : isDigit (S k.T (c + s + n1 + 1 + n2)) = false)
    (hm1 : w.cell? ⟨m1, 0, none⟩ = some (.int .i8 v1)) (hmf1 : w.frozen? ⟨m1, 0, none⟩ = false) (hm2 : w.cell? ⟨m2, 0, none⟩ = some (.int .i8 v2)) (hmf2 : w.frozen? ⟨m2, 0, none⟩ = false) (hne : m1 ≠ m2) (hf1 : Far k p m1) (hf2 : Far k p m2) (hg : 2 < w.heap.size) :
    Calls Tryd.prog 64 #[.pointer (some ⟨p, 0, none⟩), .agg #[.int .i64 s0, .int .i64 s1, .int .i64 s2], .pointer (some ⟨m1, 0, none⟩), .pointer (some ⟨m2, 0, none⟩)] w fun e w' => e = .returned (.bool true) ∧ Moved k p c (s + n1 + 1 + n2) mi mc L (m1 :: m2 :: k.bs p) w w' ∧
      w'.cell? ⟨m1, 0, none⟩ = some (.int .i8 (numv k.T (c + s) n1)) ∧ w'.cell? ⟨m2, 0, none⟩ = some (.int .i8 (numv k.T (c + s + n1 + 1) n2)) := by
  have hb0 : Below w.heap.size w (w.alloc (.cells #[.int .i64 s0, .int .i64 s1, .int .i64 s2] 74)) := (Below.refl _ _).alloc (Nat.le_refl _) _
  have hr0 := rdr_new h hb0
  have hk0 : Kp [] w (w.alloc (.cells #[.int .i64 s0, .int .i64 s1, .int .i64 s2] 74)) := Kp.of_below hb0
  have hg0 : 2 < (w.alloc (.cells #[.int .i64 s0, .int .i64 s1, .int .i64 s2] 74)).heap.size := by simp; omega
  have q0 : (w.alloc (.cells #[.int .i64 s0, .int .i64 s1, .int .i64 s2] 74)).cell? ⟨w.heap.size, 0, none⟩ = some (.int .i64 s0) := by simp
  have q1 : (w.alloc (.cells #[.int .i64 s0, .int .i64 s1, .int .i64 s2] 74)).cell? ⟨w.heap.size, 1, none⟩ = some (.int .i64 s1) := by simp
  have q2 : (w.alloc (.cells #[.int .i64 s0, .int .i64 s1, .int .i64 s2] 74)).cell? ⟨w.heap.size, 2, none⟩ = some (.int .i64 s2) := by simp
  obtain ⟨wa, HWA⟩ : ∃ wa : World, Hid (w.alloc (.cells #[.int .i64 s0, .int .i64 s1, .int .i64 s2] 74) = wa) := ⟨_, rfl⟩
  rw [HWA.out] at hr0 hk0 hg0 q0 q1 q2
  have hW : w.heap.size ∉ m1 :: m2 :: k.bs p := by
    have l1 := World.block_lt_of_cell? w ⟨m1, 0, none⟩ hm1
    have l2 := World.block_lt_of_cell? w ⟨m2, 0, none⟩ hm2
    obtain ⟨rl, rpos, ip, eof, RL, BL, st, hl, _⟩ := h.ex
    have l3 := hl.pb.lt
    have l4 := hl.rb.lt
    have l5 := hl.qb.lt
    unfold Kn.bs
    simp at l1 l2 ⊢
    omega
  have HW := Lib.hid hW
  have HR0 := Lib.hid hr0
  have HK0 := Lib.hid hk0
  have HRR := Lib.hid hr
  have H24 := Lib.hid h24
  have H26 := Lib.hid h26
  have H19 := Lib.hid h19
  have HBL := Lib.hid hbl
  have HD1 := Lib.hid hd1
  have HD2 := Lib.hid hd2
  have HDOT := Lib.hid hdot
  have HEND := Lib.hid hend
  have HC1 := Lib.hid (kp_cell hk0 hm1 (by simp))
  have HC2 := Lib.hid (kp_cell hk0 hm2 (by simp))
  have HF1 := Lib.hid (kp_frozen hk0 hm1 hmf1 (by simp))
  have HF2 := Lib.hid (kp_frozen hk0 hm2 hmf2 (by simp))
  have HQ0 := Lib.hid q0
  have HQ1 := Lib.hid q1
  have HQ2 := Lib.hid q2
  have HFA1 := Lib.hid hf1
  have HFA2 := Lib.hid hf2
  have HNE := Lib.hid hne
  have hu541 := rdr_u h
  obtain ⟨c18, f18⟩ := at_ hr0.pb 18 hr0.at18
  obtain ⟨ub, hub, HUB2⟩ : ∃ b : Bool, decide ((u : Int) < 1) = b ∧ Hid (b = false → 1 ≤ u) := ⟨_, rfl, Lib.hid fun h => by simp at h; omega⟩
  clear h h24 h26 h19 hbl hd1 hd2 hdot hend hr0 hk0 hr hb0 hm1 hm2 hmf1 hmf2 q0 q1 q2 hf1 hf2 hne hW
  go_enter Tryd.func64, Tryd.ntmps64
  go_upto_region 1 with fail
  rw [HWA.out]
  go_cut [18] from 9 to 18 (fun s18 wx => s18 = .bool false ∧ Moved k p c 0 mi mc L (k.bs p) wa wx)
  case first =>
    cases ub with
    | false =>
      have hu1 := HUB2.out rfl
      go_wp2_with fail
      go_meet
      case rel => exact ⟨rfl, ⟨⟨u, bp, bl, L, HR0.out, hu1, H24.out, H26.out, ⟨z, H19.out⟩, fun _ _ _ _ _ => rfl⟩, Kp.refl _ _⟩⟩
    | true =>
      go_wp2_with fail
      refine (ub_any k p c u bp bl 1 L wa HRR.out HR0.out (by omega) (by omega) hg0).mono ?_
      rintro e w1 ⟨rfl, hupd⟩
      have HU := Lib.hid (moved_upd (i := 0) hupd H24.out H26.out H19.out (fun _ _ _ _ _ => rfl) (Kp.refl (k.bs p) _) (fun _ h => h))
      clear hupd
      go_wp2_with fail
      go_meet
      case rel => exact ⟨rfl, HU.out⟩
  case rest =>
    obtain ⟨rfl, hst⟩ := hcut
    have HST := Lib.hid hst
    clear hst hub c18 f18 HR0 H24 H26 H19
    go_wp2_with fail
    go_loopg [] s (fun g wr => ∃ i : Nat, i ≤ s ∧ g = s - i ∧ Moved k p c i mi mc L (k.bs p) wa wr)
    case atStart => exact ⟨0, Nat.zero_le _, rfl, HST.out⟩
    obtain ⟨i, hin, hgk, ⟨⟨u1, bp1, bl1, L1, hr1, hu1, h241, h261, ⟨z1, h191⟩, ho1⟩, hk1⟩⟩ := hrel
    have HGK := Lib.hid hgk
    have hrd1 := hr1.ready 1 hu1
    have hsm1 := hr1.small
    have hge1 := adv_ge k.T (c + i) 1
    have hby := hr1.byte 0 (by omega)
    rw [Nat.add_zero, Nat.add_zero] at hby
    obtain ⟨x, HX⟩ : ∃ x, Hid (S k.T (c + i) = x) := ⟨_, rfl⟩
    rw [HX.out] at hby
    have hdc : ∀ N, Calls Tryd.prog 102 #[.slice (some ⟨k.q, 0, none⟩) bl1 1536, .int .i64 bp1] (wr.drewN N) fun e w' => e = .returned (.bool (isBlank x)) ∧ w' = wr.drewN N := fun N => blank_any k.q bp1 bl1 1536 x (wr.drewN N) (by omega) (by omega) hby
    obtain ⟨c16, f16⟩ := at_ hr1.pb 16 hr1.at16
    obtain ⟨c17, f17⟩ := at_ hr1.pb 17 hr1.at17
    have j1 : (bp1 : Int) < (bl1 : Int) := by omega
    have HR1 := Lib.hid hr1
    have H241 := Lib.hid h241
    have H261 := Lib.hid h261
    have H191 := Lib.hid h191
    have HO1 := Lib.hid ho1
    have HK1 := Lib.hid hk1
    have hsz1 := hk1.size
    have hv541 := rdr_u hr1
    have hg1 : 2 < wr.heap.size := by omega
    by_cases hlt : i < s
    · have hxb : x = 32 := by rw [← HX.out]; exact HBL.out i hlt
      rw [show isBlank x = true by rw [hxb]; rfl] at hdc
      have HDC := Lib.hid hdc
      have HXB := Lib.hid hxb
      obtain ⟨v, rfl⟩ : ∃ v, u1 = v + 1 := ⟨u1 - 1, by omega⟩
      clear hr1 h241 h261 h191 ho1 hk1 hdc hby hrd1 hge1 hgk hxb
      go_wp2_with fail
      go_quiet ((go_at_call 102; exact Calls.quiet_of_same (HDC.out _)))
      go_wp2_with fail
      refine (skip_any k p (c + i) v bp1 bl1 (mi + i) (mc + i) z1 L1 _ (HR1.out.drewN _) H241.out H261.out H191.out (by omega) (by omega) (by omega)).mono ?_
      rintro e w2 ⟨rfl, hsk⟩
      obtain ⟨L2, hr2, h242, h262, ⟨z2, h192⟩, ho2⟩ := hsk.ex
      have hnx : nx k.T (c + i) = c + (i + 1) := by unfold nx; rw [HX.out, HXB.out]; rfl
      rw [hnx] at hr2
      have hkp2 : Kp [p] wr w2 := ((Kp.refl _ wr).drewN _).trans hsk.kp
      have hk2 : Kp (k.bs p) wa w2 := HK1.out.trans (kp_sub hkp2)
      have hs2 : w2.heap.size = wr.heap.size := hsk.size
      have ho3 : ∀ j, rdOff j → j ≠ 19 → j ≠ 24 → j ≠ 26 → L2[j]? = L[j]? := fun j j1 j2 j3 j4 => by
        rw [ho2 j (by unfold rdOff at j1; omega) (by unfold rdOff at j1; omega) j2 j3 j4]
        exact HO1.out j j1 j2 j3 j4
      have hg2 : 2 < w2.heap.size := by omega
      obtain ⟨c18, f18⟩ := at_ hr2.pb 18 hr2.at18
      have HR2 := Lib.hid hr2
      have H242 := Lib.hid h242
      have H262 := Lib.hid h262
      have H192 := Lib.hid h192
      have HO3 := Lib.hid ho3
      have HK2 := Lib.hid hk2
      clear hsk hr2 h242 h262 h192 ho2 ho3 hnx hkp2 hk2 c16 c17 f16 f17
      by_cases hv0 : v = 0
      · have hub : decide ((v : Int) < 1) = true := by simp; omega
        clear hv0
        go_wp2_with fail
        refine (ub_any k p (c + (i + 1)) v _ bl1 1 L2 w2 HRR.out HR2.out (by omega) (by omega) hg2).mono ?_
        rintro e w3 ⟨rfl, hupd⟩
        have HU := Lib.hid (moved_upd (i := i + 1) hupd H242.out H262.out H192.out HO3.out HK2.out (fun _ h => h))
        clear hupd
        go_wp2_with fail
        go_roundg (s - (i + 1))
        case measure => have := HGK.out; omega
        case rel => exact ⟨i + 1, by omega, rfl, HU.out⟩
      · have hub : decide ((v : Int) < 1) = false := by simp; omega
        have HV := Lib.hid hv0
        clear hv0
        go_wp2_with fail
        go_roundg (s - (i + 1))
        case measure => have := HGK.out; omega
        case rel => exact ⟨i + 1, by omega, rfl, ⟨⟨v, _, bl1, L2, HR2.out, by have := HV.out; omega, H242.out, H262.out, ⟨z2, H192.out⟩, HO3.out⟩, HK2.out⟩⟩
    · obtain rfl : i = s := by omega
      have hxd := HD1.out 0 (by omega)
      rw [Nat.add_zero, HX.out] at hxd
      obtain ⟨x1, x2, x3⟩ := digit_cw hxd
      rw [show isBlank x = false by unfold isBlank; rw [Bool.or_eq_false_iff, beq_eq_false_iff_ne, beq_eq_false_iff_ne]; omega] at hdc
      have HDC := Lib.hid hdc
      have hWb : w.heap.size ∉ k.bs p := fun hh => HW.out (by simp [hh])
      have a0 := kp_cell hk1 HQ0.out hWb
      have a1 := kp_cell hk1 HQ1.out hWb
      have a2 := kp_cell hk1 HQ2.out hWb
      have mc1 := kp_cell hk1 HC1.out HFA1.out.1
      have mf1 := kp_frozen hk1 HC1.out HF1.out HFA1.out.1
      have mc2 := kp_cell hk1 HC2.out HFA2.out.1
      have mf2 := kp_frozen hk1 HC2.out HF2.out HFA2.out.1
      have HM1 := Lib.hid mc1
      have HMF1 := Lib.hid mf1
      have HM2 := Lib.hid mc2
      have HMF2 := Lib.hid mf2
      have HA0 := Lib.hid a0
      have HA1 := Lib.hid a1
      have HA2 := Lib.hid a2
      clear hr1 h241 h261 h191 ho1 hk1 hdc hby hrd1 hge1 hgk hxd hWb mc1 mf1 mc2 mf2
      go_wp2_with fail
      go_quiet ((go_at_call 102; exact Calls.quiet_of_same (HDC.out _)))
      go_wp2_with fail
      refine (num_any k p (c + i) u1 bp1 bl1 (mi + i) 0 (mc + i) n1 m1 z1 v1 s0 s1 s2 L1 _ HRR.out (HR1.out.drewN _) H241.out H261.out H191.out (by omega) (by omega) hn1 hn2 HD1.out (by rw [HDOT.out]; rfl) HM1.out HMF1.out HFA1.out hg1).mono ?_
      rintro e w2 ⟨rfl, hmv, hn1c, hn1f⟩
      obtain ⟨⟨u2, bp2, bl2, L2, hr2, hu2, h242, h262, ⟨z2, h192⟩, ho2⟩, hk2⟩ := hmv
      have hrd2 := hr2.ready 1 hu2
      have hsm2 := hr2.small
      have hge2 := adv_ge k.T (c + i + n1) 1
      have hby2 := hr2.byte 0 (by omega)
      rw [Nat.add_zero, Nat.add_zero, HDOT.out] at hby2
      have hv542 := rdr_u hr2
      obtain ⟨v, rfl⟩ : ∃ v, u2 = v + 1 := ⟨u2 - 1, by omega⟩
      have hkw2 : Kp (m1 :: k.bs p) wr w2 := ((Kp.refl _ wr).drewN _).trans hk2
      have hg2 : 2 < w2.heap.size := by have := hkw2.size; omega
      have hn2m : m2 ∉ m1 :: k.bs p := by
        have q1 := HFA2.out.1
        have q2 := HNE.out
        simp
        exact ⟨fun h => q2 h.symm, q1⟩
      have hwm : w.heap.size ∉ m1 :: k.bs p := fun hh => HW.out (by simp at hh ⊢; rcases hh with h | h; exact .inl h; exact .inr (.inr h))
      have b0 := kp_cell hkw2 HA0.out hwm
      have b1 := kp_cell hkw2 HA1.out hwm
      have b2 := kp_cell hkw2 HA2.out hwm
      have mc2 := kp_cell hkw2 HM2.out hn2m
      have mf2 := kp_frozen hkw2 HM2.out HMF2.out hn2m
      obtain ⟨d16, e16⟩ := at_ hr2.pb 16 hr2.at16
      obtain ⟨d17, e17⟩ := at_ hr2.pb 17 hr2.at17
      have j2 : (bp2 : Int) < (bl2 : Int) := by omega
      have HR2 := Lib.hid hr2
      have H242 := Lib.hid h242
      have H262 := Lib.hid h262
      have H192 := Lib.hid h192
      have HO2 := Lib.hid ho2
      have HK2 := Lib.hid hkw2
      have HN1C := Lib.hid hn1c
      have HB0 := Lib.hid b0
      have HB1 := Lib.hid b1
      have HB2 := Lib.hid b2
      have HP2 := Lib.hid mc2
      have HPF2 := Lib.hid mf2
      clear hr2 h242 h262 h192 ho2 hk2 hkw2 hn1c hn1f mc2 mf2 hn2m hwm hrd2 hge2 a0 a1 a2 c16 f16 c17 f17
      go_wp2_with fail
      go_quiet (fail)
      go_wp2_with fail
      refine (skip_any k p (c + i + n1) v bp2 bl2 (mi + i + n1) (mc + i + n1) z2 L2 _ (HR2.out.drewN _) H242.out H262.out H192.out (by omega) (by omega) (by omega)).mono ?_
      rintro e w3 ⟨rfl, hsk⟩
      obtain ⟨L3, hr3, h243, h263, ⟨z3, h193⟩, ho3⟩ := hsk.ex
      have hnx : nx k.T (c + i + n1) = c + i + n1 + 1 := by unfold nx; rw [HDOT.out]; rfl
      rw [hnx] at hr3
      have hkp3 : Kp [p] w2 w3 := ((Kp.refl _ w2).drewN _).trans hsk.kp
      have hs3 : w3.heap.size = w2.heap.size := hsk.size
      have hg3 : 2 < w3.heap.size := by omega
      have hpb : ∀ b, b ∉ k.bs p → b ∉ [p] := fun b hb hh => hb (by simp at hh; subst hh; exact k.mp b)
      have hwp : w.heap.size ∉ [p] := hpb _ (fun hh => HW.out (by simp [hh]))
      have b0 := kp_cell hkp3 HB0.out hwp
      have b1 := kp_cell hkp3 HB1.out hwp
      have b2 := kp_cell hkp3 HB2.out hwp
      have mc2 := kp_cell hkp3 HP2.out (hpb _ HFA2.out.1)
      have mf2 := kp_frozen hkp3 HP2.out HPF2.out (hpb _ HFA2.out.1)
      have mc1 := kp_cell hkp3 HN1C.out (hpb _ HFA1.out.1)
      have HR3 := Lib.hid hr3
      have H243 := Lib.hid h243
      have H263 := Lib.hid h263
      have H193 := Lib.hid h193
      have HO3 := Lib.hid ho3
      have HK3 := Lib.hid hkp3
      have HS2 := Lib.hid mc2
      have HSF2 := Lib.hid mf2
      have HN1D := Lib.hid mc1
      clear hsk hr3 h243 h263 h193 ho3 hkp3 mc1 mc2 mf2 hpb hwp d16 d17 e16 e17 hby2 hnx
      go_wp2_with fail
      refine (num_any k p (c + i + n1 + 1) v _ bl2 (mi + i + n1 + 1) 0 (mc + i + n1 + 1) n2 m2 z3 v2 s0 s1 s2 L3 _ HRR.out (HR3.out) H243.out H263.out H193.out (by omega) (by omega) hn3 hn4 HD2.out HEND.out HS2.out HSF2.out HFA2.out hg3).mono ?_
      rintro e w4 ⟨rfl, hmv, hn2c, hn2f⟩
      have HMV := Lib.hid hmv
      have HN2C := Lib.hid hn2c
      clear hmv hn2c hn2f
      go_wp2_with fail
      go_ret
      obtain ⟨⟨u4, bp4, bl4, L4, hr4, hu4, h244, h264, h194, ho4⟩, hk4⟩ := HMV.out
      have s1 : Kp (m1 :: m2 :: k.bs p) w wa := HK0.out.mono (fun b hb => by simp at hb)
      have s2 : Kp (m1 :: m2 :: k.bs p) wa wr := HK1.out.mono (fun b hb => List.mem_cons_of_mem _ (List.mem_cons_of_mem _ hb))
      have s3 : Kp (m1 :: m2 :: k.bs p) wr w2 := HK2.out.mono (fun b hb => by simp at hb ⊢; rcases hb with h | h; exact .inl h; exact .inr (.inr h))
      have s4 : Kp (m1 :: m2 :: k.bs p) w2 w3 := HK3.out.mono (fun b hb => by simp at hb; subst hb; exact List.mem_cons_of_mem _ (List.mem_cons_of_mem _ (k.mp b)))
      have s5 : Kp (m1 :: m2 :: k.bs p) w3 w4 := hk4.mono (fun b hb => List.mem_cons_of_mem _ hb)
      have e1 : c + i + n1 + 1 + n2 = c + (i + n1 + 1 + n2) := by omega
      have e2 : mi + i + n1 + 1 + n2 = mi + (i + n1 + 1 + n2) := by omega
      have e3 : mc + i + n1 + 1 + n2 = mc + (i + n1 + 1 + n2) := by omega
      rw [e1] at hr4
      rw [e2] at h244
      rw [e3] at h264
      refine ⟨rfl, ⟨⟨u4, bp4, bl4, L4, hr4, hu4, h244, h264, h194, fun j j1 j2 j3 j4 => ?_⟩, (((s1.trans s2).trans s3).trans s4).trans s5⟩, kp_cell hk4 HN1D.out (fun hh => ?_), HN2C.out⟩
      · rw [ho4 j j1 j2 j3 j4, HO3.out j (by unfold rdOff at j1; omega) (by unfold rdOff at j1; omega) j2 j3 j4, HO2.out j j1 j2 j3 j4, HO1.out j j1 j2 j3 j4]
      · simp at hh
        rcases hh with h | h
        · exact HNE.out h
        · exact HFA1.out.1 h
end Go.Proofs.YtocbbekciphjgaaDoor.Sc
