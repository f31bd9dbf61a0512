/- A number of a version is read (yaml_parser_scan_version_directive_number): the walk. -/
import Derived.Test.YtocbbekciphjgaaDoorScA
import Derived.Test.YtocbbekciphjgaaDoorPaP
namespace Go.Proofs.YtocbbekciphjgaaDoor.Sc
open Go.RowKit Go.Proofs.YtocbbekciphjgaaDoor.Rdp Go.Proofs.YtocbbekciphjgaaDoor.Pa
set_option linter.unusedVariables false
set_option linter.unusedSimpArgs false
theorem quiet_add_same {P : Program} {f : FuncId} {args : Array Value} {w : World} {a n : Nat} {v : Value}
    (h : Calls P f args (w.drewN (a + n)) fun e w' => e = .returned v ∧ w' = w.drewN (a + n)) :
    Calls P f args (w.drewN (a + n)) fun e w'' => e = .returned v ∧ ∃ m, w'' = w.drewN (a + m) :=
  h.mono fun _ _ ⟨he, hm⟩ => ⟨he, n, hm⟩
/-- Blocks of others have turned, or new ones been made. -/
theorem rdr_far {k : Kn} {p c u bp bl : Nat} {L : List Value} {w w' : World} {ps : List Nat} (h : Rdr k p c u bp bl L w) (hk : Kp ps w w') (hp : ∀ b ∈ ps, b ∉ k.bs p ∧ b ≠ 2 ∧ ∀ o, k.A = some ⟨b, o, none⟩ → k.T.length = 0) : Rdr k p c u bp bl L w' := by
  obtain ⟨rl, rpos, ip, eof, RL, BL, st, h1, h22, hm⟩ := h.ex
  have n0 : ∀ b, b ∈ k.bs p → b ∉ ps := fun b hb hh => (hp b hh).1 hb
  refine ⟨h.ok, h.at16, h.bd, rl, rpos, ip, eof, RL, BL, st, ⟨h1.pb.kp hk (n0 p (k.mp p)), h1.plen, h1.rb.kp hk (n0 _ (k.mr p)), h1.rlen, h1.qb.kp hk (n0 _ (k.mq p)), h1.qlen, h1.qall, h1.inp.kp hk (fun b o e h0 hh => ?_), (hk.cell (x := ⟨2, 0, none⟩) (World.block_lt_of_cell? w ⟨2, 0, none⟩ h1.ev) (fun hh => (hp 2 hh).2.1 rfl)).trans h1.ev, h1.at11, h1.at13, h1.at14, h1.at15, h1.at17, h1.at18, h1.at20, h1.at21, h1.at23, h1.hip, h1.hrl, h1.hrpos, h1.hraw, h1.hbp, h1.hbl, h1.buf, h1.raw⟩, h22, hm⟩
  have := (hp b hh).2.2 o e
  omega
theorem rdr_new {k : Kn} {p c u bp bl : Nat} {L : List Value} {w w' : World} (h : Rdr k p c u bp bl L w) (hb : Below w.heap.size w w') : Rdr k p c u bp bl L w' := rdr_far h (Kp.of_below (ps := []) hb) (by simp)
/-- The number that digits tell. -/
def numv (T : List Int) (c : Nat) : Nat → Int
  | 0 => 0
  | i + 1 => numv T c i * 10 + (S T (c + i) - 48)
/-- What is left when characters have been passed over. -/
structure Moved (k : Kn) (p c n mi mc : Nat) (L : List Value) (ps : List Nat) (w w' : World) : Prop where
  ex : ∃ u bp bl L', Rdr k p (c + n) u bp bl L' w' ∧ 1 ≤ u ∧ L'[24]? = some (.int .i64 (mi + n : Nat)) ∧ L'[26]? = some (.int .i64 (mc + n : Nat)) ∧ (∃ z, L'[19]? = some (.int .i64 z)) ∧ (∀ j, rdOff j → j ≠ 19 → j ≠ 24 → j ≠ 26 → L'[j]? = L[j]?)
  kp : Kp ps w w'
theorem digit_cw {x : Int} (h : isDigit x = true) : 48 ≤ x ∧ x ≤ 57 ∧ cw x = 1 := by
  unfold isDigit at h
  rw [Bool.and_eq_true] at h
  have h1 := of_decide_eq_true h.1
  have h2 := of_decide_eq_true h.2
  refine ⟨h1, h2, ?_⟩
  unfold cw
  rw [if_pos (by omega)]
theorem rdr_u {k : Kn} {p c u bp bl : Nat} {L : List Value} {w : World} (h : Rdr k p c u bp bl L w) : u ≤ 541 := by
  have h1 := h.ready u (Nat.le_refl _)
  have h2 := adv_ge k.T c u
  have := h.small
  omega
/-- Where the scanner stands: i characters have been passed over, and one lies ready. -/
def Stood (k : Kn) (p c mi mc nb : Nat) (v : Int) (L : List Value) (w0 : World) (i : Nat) (w : World) : Prop :=
  Moved k p c i mi mc L (nb :: k.bs p) w0 w ∧ w.cell? ⟨nb, 0, none⟩ = some (.int .i8 v) ∧ w.frozen? ⟨nb, 0, none⟩ = false ∧ w0.heap.size ≤ w.heap.size
theorem Stood.drewN {k : Kn} {p c mi mc nb : Nat} {v : Int} {L : List Value} {w0 : World} {i : Nat} {w : World} (h : Stood k p c mi mc nb v L w0 i w) (d : Nat) : Stood k p c mi mc nb v L w0 i (w.drewN d) := by
  obtain ⟨⟨⟨u, bp, bl, L', h1, h2⟩, hk⟩, h3⟩ := h
  exact ⟨⟨⟨u, bp, bl, L', h1.drewN d, h2⟩, hk.drewN d⟩, h3⟩
/-- Behind a filling of the buffer. -/
theorem stood_upd {k : Kn} {p c mi mc nb i u n : Nat} {v z : Int} {L L1 : List Value} {w0 w w' : World} (hu : Upd k p (c + i) u n L1 w w') (h24 : L1[24]? = some (.int .i64 (mi + i : Nat))) (h26 : L1[26]? = some (.int .i64 (mc + i : Nat))) (h19 : L1[19]? = some (.int .i64 z)) (ho : ∀ j, rdOff j → j ≠ 19 → j ≠ 24 → j ≠ 26 → L1[j]? = L[j]?)
    (hk : Kp (nb :: k.bs p) w0 w) (hc : w.cell? ⟨nb, 0, none⟩ = some (.int .i8 v)) (hf : w.frozen? ⟨nb, 0, none⟩ = false) (hs : w0.heap.size ≤ w.heap.size) (hnb : nb ∉ k.bs p) : Stood k p c mi mc nb v L w0 i w' := by
  obtain ⟨u', bp', bl', L', h1, h2, h3, h4, h5, h6, h7⟩ := hu
  have hlt : nb < w.heap.size := World.block_lt_of_cell? w ⟨nb, 0, none⟩ hc
  have hblk := h6.block nb hlt hnb
  refine ⟨⟨⟨u', bp', bl', L', h1, h2, ?_, ?_, ⟨z, ?_⟩, fun j j1 j2 j3 j4 => (h5 j j1).trans (ho j j1 j2 j3 j4)⟩, hk.trans (h6.mono fun x hx => List.mem_cons_of_mem _ hx)⟩, ?_, ?_, by omega⟩
  · exact (h5 24 (by unfold rdOff; omega)).trans h24
  · exact (h5 26 (by unfold rdOff; omega)).trans h26
  · exact (h5 19 (by unfold rdOff; omega)).trans h19
  · rw [World.cell?_of_block (w := w) (a := ⟨nb, 0, none⟩) hblk]; exact hc
  · rw [World.frozen?_of_block (w := w) (a := ⟨nb, 0, none⟩) hblk]; exact hf
set_option maxHeartbeats 16000000 in
set_option maxRecDepth 100000 in
theorem num_any (k : Kn) (p c u bp bl mi ml mc n nb : Nat) (z v0 s0 s1 s2 : Int) (L : List Value) (w : World) (hr : RoundOk k p) (h : Rdr k p c u bp bl L w) (h24 : L[24]? = some (.int .i64 (mi : Nat))) (h26 : L[26]? = some (.int .i64 (mc : Nat))) (h19 : L[19]? = some (.int .i64 z)) (hmi : mi ≤ 1000000000) (hmc : mc ≤ 1000000000)
    (hn1 : 1 ≤ n) (hn2 : n ≤ 2) (hd : ∀ i, i < n → isDigit (S k.T (c + i)) = true) (hend : isDigit (S k.T (c + n)) = false) (hnb : w.cell? ⟨nb, 0, none⟩ = some (.int .i8 v0)) (hnf : w.frozen? ⟨nb, 0, none⟩ = false) (hfar : nb ∉ k.bs p ∧ nb ≠ 2 ∧ ∀ o, k.A = some ⟨nb, o, none⟩ → k.T.length = 0) (hg : 2 < w.heap.size) :
    Calls Tryd.prog 104 #[.pointer (some ⟨p, 0, none⟩), .agg #[.int .i64 s0, .int .i64 s1, .int .i64 s2], .pointer (some ⟨nb, 0, none⟩)] w fun e w' => e = .returned (.bool true) ∧ Moved k p c n mi mc L (nb :: k.bs p) w w' ∧ w'.cell? ⟨nb, 0, none⟩ = some (.int .i8 (numv k.T c n)) ∧ w'.frozen? ⟨nb, 0, none⟩ = false := by
  have hnbl : nb < w.heap.size := World.block_lt_of_cell? w ⟨nb, 0, none⟩ hnb
  have hb0 : Below w.heap.size w (w.alloc (.cells #[.int .i64 s0, .int .i64 s1, .int .i64 s2] 74)) := (Below.refl _ _).alloc (Nat.le_refl _) _
  have hr0 := rdr_new h hb0
  have hd0 : (w.alloc (.cells #[.int .i64 s0, .int .i64 s1, .int .i64 s2] 74)).cell? ⟨nb, 0, none⟩ = some (.int .i8 v0) := by rw [hb0.cell (p := ⟨nb, 0, none⟩) hnbl]; exact hnb
  have hf0 : (w.alloc (.cells #[.int .i64 s0, .int .i64 s1, .int .i64 s2] 74)).frozen? ⟨nb, 0, none⟩ = false := by rw [hb0.frozen (p := ⟨nb, 0, none⟩) hnbl]; exact hnf
  have hg0 : 2 < (w.alloc (.cells #[.int .i64 s0, .int .i64 s1, .int .i64 s2] 74)).heap.size := by simp; omega
  have hk0 : Kp (nb :: k.bs p) w (w.alloc (.cells #[.int .i64 s0, .int .i64 s1, .int .i64 s2] 74)) := Kp.of_below hb0
  obtain ⟨wa, HWA⟩ : ∃ wa : World, Hid (w.alloc (.cells #[.int .i64 s0, .int .i64 s1, .int .i64 s2] 74) = wa) := ⟨_, rfl⟩
  rw [HWA.out] at hr0 hd0 hf0 hg0 hk0
  have HR0 := Lib.hid hr0
  have HD0 := Lib.hid hd0
  have HF0 := Lib.hid hf0
  have HK0 := Lib.hid hk0
  have HRR := Lib.hid hr
  have H24 := Lib.hid h24
  have H26 := Lib.hid h26
  have H19 := Lib.hid h19
  have HDG := Lib.hid hd
  have HEND := Lib.hid hend
  have HFAR := Lib.hid hfar
  have hu541 := rdr_u h
  obtain ⟨c18, f18⟩ := at_ hr0.pb 18 hr0.at18
  clear h h24 h26 h19 hd hend hnb hnf hfar hr0 hd0 hf0 hk0 hr hb0
  have hfin : Hid (∃ b : Bool, decide ((u : Int) < 1) = b ∧ (b = false → 1 ≤ u)) := ⟨_, rfl, fun h => by simp at h; omega⟩
  obtain ⟨ub, hub, hub2⟩ := hfin.out
  have HUB2 := Lib.hid hub2
  clear hub2 hfin
  go_enter Tryd.func104, Tryd.ntmps104
  go_upto_region 1 with fail
  rw [HWA.out]
  go_cut [18] from 9 to 18 (fun s18 wx => s18 = .bool false ∧ Stood k p c mi mc nb v0 L w 0 wx)
  case first =>
    cases ub with
    | false =>
      have hu1 := HUB2.out rfl
      go_wp2_with fail
      go_meet
      case rel => exact ⟨rfl, ⟨⟨u, bp, bl, L, HR0.out, hu1, H24.out, H26.out, ⟨z, H19.out⟩, fun _ _ _ _ _ => rfl⟩, HK0.out⟩, HD0.out, HF0.out, HK0.out.size⟩
    | true =>
      go_wp2_with fail
      refine (ub_any k p c u bp bl 1 L wa HRR.out HR0.out (by omega) (by omega) hg0).mono ?_
      rintro e w1 ⟨rfl, hupd⟩
      have HU := Lib.hid (stood_upd (i := 0) (v := v0) hupd H24.out H26.out H19.out (fun _ _ _ _ _ => rfl) HK0.out HD0.out HF0.out HK0.out.size HFAR.out.1)
      clear hupd
      go_wp2_with fail
      go_meet
      case rel => exact ⟨rfl, HU.out⟩
  case rest =>
    obtain ⟨rfl, hst⟩ := hcut
    have HST := Lib.hid hst
    clear hst hub c18 f18 HR0 HD0 HF0 HK0 H24 H26 H19
    go_wp2_with fail
    go_loopw [7, 8] (fun s7 s8 wr => ∃ i : Nat, i ≤ n ∧ s7 = .int .i8 (numv k.T c i) ∧ s8 = .int .i8 i ∧ Stood k p c mi mc nb v0 L w i wr) (fun _ s8 _ => n - (intOf s8).toNat)
    case atStart => exact ⟨0, Nat.zero_le _, rfl, rfl, HST.out⟩
    obtain ⟨i, hin, rfl, rfl, ⟨⟨⟨u1, bp1, bl1, L1, hr1, hu1, h241, h261, ⟨z1, h191⟩, ho1⟩, hk1⟩, hd1, hf1, hsz1⟩⟩ := hrel
    have hrd1 := hr1.ready 1 hu1
    have hsm1 := hr1.small
    have hge1 := adv_ge k.T (c + i) 1
    have hby := hr1.byte 0 (by omega)
    rw [Nat.add_zero, Nat.add_zero] at hby
    obtain ⟨x, HX⟩ : ∃ x, Hid (S k.T (c + i) = x) := ⟨_, rfl⟩
    rw [HX.out] at hby
    have hdc : ∀ N, Calls Tryd.prog 120 #[.slice (some ⟨k.q, 0, none⟩) bl1 1536, .int .i64 bp1] (wr.drewN N) fun e w' => e = .returned (.bool (isDigit x)) ∧ w' = wr.drewN N := fun N => digit_any k.q bp1 bl1 1536 x (wr.drewN N) (by omega) (by omega) hby
    obtain ⟨c16, f16⟩ := at_ hr1.pb 16 hr1.at16
    obtain ⟨c17, f17⟩ := at_ hr1.pb 17 hr1.at17
    have j1 : (bp1 : Int) < (bl1 : Int) := by omega
    have HR1 := Lib.hid hr1
    have H241 := Lib.hid h241
    have H261 := Lib.hid h261
    have H191 := Lib.hid h191
    have HO1 := Lib.hid ho1
    have HK1 := Lib.hid hk1
    have HD1 := Lib.hid hd1
    have HF1 := Lib.hid hf1
    by_cases hlt : i < n
    · have hdi := HDG.out i hlt
      rw [HX.out] at hdi
      obtain ⟨x1, x2, x3⟩ := digit_cw hdi
      rw [hdi] at hdc
      have HDC := Lib.hid hdc
      have hac : ∀ N, Calls Tryd.prog 121 #[.slice (some ⟨k.q, 0, none⟩) bl1 1536, .int .i64 bp1] (wr.drewN N) fun e w' => e = .returned (.int .i64 (x - 48)) ∧ w' = wr.drewN N := fun N => asdigit_any k.q bp1 bl1 1536 x (wr.drewN N) (by omega) (by omega) (by omega) (by omega) hby
      have HAC := Lib.hid hac
      have hnv : 0 ≤ numv k.T c i ∧ numv k.T c i ≤ 9 := by
        have hi : i = 0 ∨ i = 1 := by omega
        rcases hi with rfl | rfl
        · exact ⟨Int.le_refl _, by unfold numv; omega⟩
        · have := digit_cw (HDG.out 0 (by omega))
          unfold numv numv
          omega
      have HXC := Lib.hid x3
      obtain ⟨y, HY⟩ : ∃ y, Hid (numv k.T c i = y) := ⟨_, rfl⟩
      rw [HY.out] at hnv ⊢
      obtain ⟨y0, y9⟩ := hnv
      obtain ⟨v, rfl⟩ : ∃ v, u1 = v + 1 := ⟨u1 - 1, by omega⟩
      have i2 : (i : Int) ≤ 1 := by omega
      have i3 : (0 : Int) ≤ (i : Int) := by omega
      have i4 : decide (2 < (i : Int) + 1) = false := by simp; omega
      have hv541 := rdr_u hr1
      have hg1 : 2 < wr.heap.size := by omega
      clear hr1 h241 h261 h191 ho1 hk1 hd1 hf1 hdc hac hby hdi x3 hrd1 hge1
      go_wp2_with fail
      go_quiet ((go_at_call 120; exact Calls.quiet_of_same (HDC.out _)))
      go_wp2_with fail
      go_quiet ((go_at_call 121; exact quiet_add_same (HAC.out _)))
      go_wp2_with fail
      refine (skip_any k p (c + i) v bp1 bl1 (mi + i) (mc + i) z1 L1 _ (HR1.out.drewN _) H241.out H261.out H191.out (by omega) (by omega) (by omega)).mono ?_
      rintro e w2 ⟨rfl, hsk⟩
      obtain ⟨L2, hr2, h242, h262, ⟨z2, h192⟩, ho2⟩ := hsk.ex
      have hnx : nx k.T (c + i) = c + (i + 1) := by unfold nx; rw [HX.out, HXC.out]; omega
      rw [hnx] at hr2
      have hpn : nb ∉ [p] := by
        have := HFAR.out.1
        unfold Kn.bs at this
        simp at this ⊢
        omega
      have hkp2 : Kp [p] wr w2 := ((Kp.refl _ wr).drewN _).trans hsk.kp
      have hk2 : Kp (nb :: k.bs p) w w2 := HK1.out.trans (hkp2.mono fun b hb => by simp at hb; subst hb; exact List.mem_cons_of_mem _ (k.mp b))
      have hnl : nb < wr.heap.size := World.block_lt_of_cell? wr ⟨nb, 0, none⟩ HD1.out
      have hd2 : w2.cell? ⟨nb, 0, none⟩ = some (.int .i8 v0) := by rw [hkp2.cell (x := ⟨nb, 0, none⟩) hnl hpn]; exact HD1.out
      have hf2 : w2.frozen? ⟨nb, 0, none⟩ = false := by rw [World.frozen?_of_block (w := wr) (a := ⟨nb, 0, none⟩) (hkp2.block nb hnl hpn)]; exact HF1.out
      have hs2 : w2.heap.size = wr.heap.size := hsk.size
      have ho3 : ∀ j, rdOff j → j ≠ 19 → j ≠ 24 → j ≠ 26 → L2[j]? = L[j]? := fun j j1 j2 j3 j4 => by
        rw [ho2 j (by unfold rdOff at j1; omega) (by unfold rdOff at j1; omega) j2 j3 j4]
        exact HO1.out j j1 j2 j3 j4
      have hg2 : 2 < w2.heap.size := by omega
      have hval : Hid (numv k.T c (i + 1) = y * 10 + (x - 48)) := by
        have : numv k.T c (i + 1) = numv k.T c i * 10 + (S k.T (c + i) - 48) := rfl
        rw [this, HY.out, HX.out]
        exact Lib.hid rfl
      obtain ⟨c18, f18⟩ := at_ hr2.pb 18 hr2.at18
      have HR2 := Lib.hid hr2
      have H242 := Lib.hid h242
      have H262 := Lib.hid h262
      have H192 := Lib.hid h192
      have HO3 := Lib.hid ho3
      have HK2 := Lib.hid hk2
      have HD2 := Lib.hid hd2
      have HF2 := Lib.hid hf2
      clear hsk hr2 h242 h262 h192 ho2 ho3 hnx hkp2 hk2 hd2 hf2 hnl hpn c16 c17 f16 f17
      by_cases hv0 : v = 0
      · have hub : decide ((v : Int) < 1) = true := by simp; omega
        clear hv0
        go_wp2_with fail
        refine (ub_any k p (c + (i + 1)) v _ bl1 1 L2 w2 HRR.out HR2.out (by omega) (by omega) hg2).mono ?_
        rintro e w3 ⟨rfl, hupd⟩
        have HU := Lib.hid (stood_upd (i := i + 1) (v := v0) hupd H242.out H262.out H192.out HO3.out HK2.out HD2.out HF2.out (by omega) HFAR.out.1)
        clear hupd
        go_wp2_with fail
        go_roundw
        case rel => exact ⟨i + 1, by omega, by rw [hval.out], by go_num, HU.out⟩
        case measure => simp [intOf]; omega
      · have hub : decide ((v : Int) < 1) = false := by simp; omega
        have HV := Lib.hid hv0
        clear hv0
        go_wp2_with fail
        go_roundw
        case rel => exact ⟨i + 1, by omega, by rw [hval.out], by go_num, ⟨⟨⟨v, _, bl1, L2, HR2.out, by have := HV.out; omega, H242.out, H262.out, ⟨z2, H192.out⟩, HO3.out⟩, HK2.out⟩, HD2.out, HF2.out, by omega⟩⟩
        case measure => simp [intOf]; omega
    · obtain rfl : i = n := by omega
      rw [← HX.out, HEND.out] at hdc
      have HDC := Lib.hid hdc
      have b0 : ((i : Int) == 0) = false := by rw [beq_eq_false_iff_ne]; omega
      obtain ⟨y, HY⟩ : ∃ y, Hid (numv k.T c i = y) := ⟨_, rfl⟩
      rw [HY.out]
      have hr1' := hr1
      clear hr1 h241 h261 h191 ho1 hk1 hdc hby hrd1 hge1
      have HR1' := Lib.hid hr1'
      clear hr1'
      go_wp2_with fail
      go_quiet ((go_at_call 120; exact Calls.quiet_of_same (HDC.out _)))
      go_wp2_with fail
      go_ret
      have hkn : Kp [nb] wr ((wr.drewN nq).setCell ⟨nb, 0, none⟩ (.int .i8 y)) := ((Kp.refl _ wr).drewN nq).setCell nb 0 _ (by simp)
      have hdn : (wr.drewN nq).cell? ⟨nb, 0, none⟩ = some (.int .i8 v0) := HD1.out
      refine ⟨rfl, ⟨⟨u1, bp1, bl1, L1, rdr_far HR1'.out hkn (fun b hb => ?_), hu1, H241.out, H261.out, ⟨z1, H191.out⟩, HO1.out⟩, HK1.out.trans (hkn.mono fun b hb => by simp at hb; subst hb; simp)⟩, by rw [HY.out]; exact World.cell?_setCell_same _ _ _ hdn, ?_⟩
      · simp at hb
        subst hb
        exact HFAR.out
      · rw [World.frozen?_setCell]; exact HF1.out
end Go.Proofs.YtocbbekciphjgaaDoor.Sc
