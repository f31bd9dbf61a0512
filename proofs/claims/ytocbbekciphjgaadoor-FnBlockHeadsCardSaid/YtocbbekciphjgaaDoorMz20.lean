/- QdG: parts of the proof, one behind another. -/
import Derived.Test.YtocbbekciphjgaaDoorMz19
/- QdG -/
/- A character of any width is read into a slice of one's own (read): the walk. -/
namespace Go.Proofs.YtocbbekciphjgaaDoor.Qd
open Go.RowKit Go.Proofs.YtocbbekciphjgaaDoor.Rdp Go.Proofs.YtocbbekciphjgaaDoor.Pa Go.Proofs.YtocbbekciphjgaaDoor.Sc
set_option linter.unusedVariables false
set_option linter.unusedSimpArgs false
/-- There is room behind a row. -/
theorem row_spare {lo : Nat} {w : World} {l : List Int} {g cap : Nat} (h : Row lo w (.slice (some ⟨g, 0, none⟩) l.length cap) l) (hc : l.length < cap) : (∃ v, w.cell? ⟨g, l.length, none⟩ = some v) ∧ w.frozen? ⟨g, l.length, none⟩ = false := by
  obtain ⟨h1, ⟨h0, _⟩ | ⟨g', c, cur, he, h2, h3, h4, h5, h6, h7⟩⟩ := h
  · cases h0
  · cases he
    unfold World.cell? World.frozen?
    simp only [h3]
    refine ⟨⟨cur[l.length]'(by omega), Array.getElem?_eq_getElem (by omega)⟩, by simp⟩
/-- A byte is laid behind a row in which there is room. -/
theorem row_room {lo : Nat} {w : World} {l : List Int} {g cap : Nat} (h : Row lo w (.slice (some ⟨g, 0, none⟩) l.length cap) l) (hc : l.length < cap) (x : Int) : Row lo (w.setCell ⟨g, l.length, none⟩ (.int .u8 x)) (.slice (some ⟨g, 0, none⟩) (l.length + 1) cap) (l ++ [x]) := by
  obtain ⟨h1, ⟨h0, _⟩ | ⟨g', c, cur, he, h2, h3, h4, h5, h6, h7⟩⟩ := h
  · cases h0
  · cases he
    have hb : Bk w g 5 cur.toList := by unfold Bk; rw [h3]
    have hb2 := hb.set l.length (.int .u8 x)
    refine ⟨by simp, .inr ⟨g, cap, (cur.toList.set l.length (.int .u8 x)).toArray, by simp, h2, hb2, by simp; omega, h5, by simp; omega, ?_⟩⟩
    have hcs : cur.toList.length = cap := by simp; omega
    simp only [Nat.mul_one] at h7
    simp only [List.length_append, List.length_cons, List.length_nil, Nat.zero_add, Nat.mul_one, List.map_append, List.map_cons, List.map_nil]
    rw [← h7]
    apply List.ext_getElem
    · simp; omega
    · intro i hi1 hi2
      simp only [List.length_take, List.length_set] at hi1
      rw [List.getElem_take, List.getElem_set]
      by_cases e : l.length = i
      · subst e
        rw [if_pos rfl, List.getElem_append_right (by simp; omega)]
        simp [hcs]
      · rw [if_neg e, List.getElem_append_left (by simp; omega), List.getElem_take]
theorem _root_.Go.Proofs.YtocbbekciphjgaaDoor.Sc.Row.drew {lo : Nat} {w : World} {v : Value} {l : List Int} (h : Row lo w v l) : Row lo w.drew v l := h
set_option maxHeartbeats 8000000 in
set_option maxRecDepth 100000 in
theorem read_any (k : Kn) (p c u bp bl mi mc lo : Nat) (z : Int) (v : Value) (l : List Int) (L : List Value) (w : World) (h : Rdr k p c (u + 1) bp bl L w) (h24 : L[24]? = some (.int .i64 (mi : Nat))) (h26 : L[26]? = some (.int .i64 (mc : Nat))) (h19 : L[19]? = some (.int .i64 z)) (hmi : mi ≤ 1000000000000) (hmc : mc ≤ 1000000000000) (hu : u ≤ 1000000)
    (hrow : Row lo w v l) (hl : l.length ≤ 10000000) (hlo : lo ≤ w.heap.size) (hfar : ∀ g, lo ≤ g → Far k p g) (news : List Int) (hnews : news.length = cw (S k.T c)) (hnb : ∀ i, i < news.length → news.getD i 0 = S k.T (c + i)) :
    Calls Tryd.prog 109 #[.pointer (some ⟨p, 0, none⟩), v] w fun e w' => ∃ v', e = .returned v' ∧ Row lo w' v' (l ++ news) ∧ (∃ L', Rdr k p (nx k.T c) u (bp + cw (S k.T c)) bl L' w' ∧ L'[24]? = some (.int .i64 (mi + 1 : Nat)) ∧ L'[26]? = some (.int .i64 (mc + 1 : Nat)) ∧ (∃ z, L'[19]? = some (.int .i64 z)) ∧ (∀ j, j ≠ 17 → j ≠ 18 → j ≠ 19 → j ≠ 24 → j ≠ 26 → L'[j]? = L[j]?)) ∧ Grew w v v' ∧ ∃ ps, Kp ps w w' ∧ ∀ b ∈ ps, b = p ∨ v.ownBlock = some b := by
  have hrd := h.ready 1 (by omega)
  have hsm := h.small
  have hpos := cw_pos (S k.T c)
  have hnx : adv k.T c 1 = c + cw (S k.T c) := rfl
  rw [hnx] at hrd
  have hby := h.byte 0 (by omega)
  rw [Nat.add_zero, Nat.add_zero] at hby
  obtain ⟨x0, x1, x2⟩ := first_at h.ok.good h.bd
  have hcw := wd_cw x0 x1 x2
  obtain ⟨c16, f16⟩ := at_ h.pb 16 h.at16
  obtain ⟨c17, f17⟩ := at_ h.pb 17 h.at17
  obtain ⟨c19, f19⟩ := at_ h.pb 19 h19
  have H := Lib.hid h
  have hpq : ¬ p = k.q := h.ok.pq
  have hqp : ¬ k.q = p := Ne.symm h.ok.pq
  obtain ⟨x, HX⟩ : ∃ x, Hid (S k.T c = x) := ⟨_, rfl⟩
  obtain ⟨m, HM⟩ : ∃ m, Hid (cw (S k.T c) = m) := ⟨_, rfl⟩
  rw [HM.out] at hcw hrd hpos hnews
  rw [HX.out] at hby x0 x1 x2 hcw
  have HCW := Lib.hid hcw
  have H24 := Lib.hid h24
  have H26 := Lib.hid h26
  have H19 := Lib.hid h19
  have HROW := Lib.hid hrow
  have HFAR := Lib.hid hfar
  have HNEWS := Lib.hid hnews
  have HNB := Lib.hid hnb
  obtain ⟨va, vc, rfl⟩ := hrow.slice
  have hbl : ∀ N, Calls Tryd.prog 102 #[.slice (some ⟨k.q, 0, none⟩) bl 1536, .int .i64 bp] (w.drewN N) fun e w' => e = .returned (.bool (isBlank x)) ∧ w' = w.drewN N := fun N => blank_any k.q bp bl 1536 x (w.drewN N) (by omega) (by omega) hby
  have HBL := Lib.hid hbl
  have hwd : ∀ W, Calls Tryd.prog 131 #[.int .u8 x] W fun e w' => e = .returned (.int .i64 (m : Nat)) ∧ w' = W := fun W => by have := Wd.wd_any x x0 (by omega) W; rw [HCW.out] at this; exact this.mono fun _ _ h => ⟨h.1, h.2.symm⟩
  have HWD := Lib.hid hwd
  have j1 : (bp : Int) < (bl : Int) := by omega
  have j0 : (0 : Int) ≤ (bp : Int) := by omega
  have j2 : (bl : Int) ≤ 541 := by omega
  have hmk : ∀ W : World, (Instr.makeSlice 22 (.int .i64 0) (.int .i64 32)).run Tryd.prog W = .ok (.slice (some ⟨W.heap.size, 0, none⟩) 0 32) (W.alloc (.cells (zeros 32).toArray 5)) := fun W => mk_any 32 (by omega) W
  clear h hrd hcw h24 h26 h19 hbl hrow hfar hnews hnb hwd
  go_enter Tryd.func109, Tryd.ntmps109
  go_wp2_with fail
  go_quiet ((go_at_call 102; exact Calls.quiet_of_same (HBL.out _)))
  clear hnx
  have hsz : Hid (bp + m ≤ bl) := by have := H.out.ready 1 (by omega); rw [show adv k.T c 1 = c + cw (S k.T c) from rfl, HM.out] at this; exact Lib.hid (by omega)
  obtain ⟨wa, hwa⟩ : ∃ wa : World, wa = w.drewN nq := ⟨_, rfl⟩
  have HA : Hid (Rdr k p c (u + 1) bp bl L wa) := by rw [hwa]; exact H.out.drewN nq
  have HKA : Hid (Kp [p] w wa ∧ wa.heap.size = w.heap.size) := by rw [hwa]; exact ⟨(Kp.refl _ _).drewN nq, rfl⟩
  rw [← hwa]
  clear hwa c16 c17 c19 f16 f17 f19 hby
  obtain ⟨b, HB⟩ : ∃ b : Bool, Hid (isBlank x = b) := ⟨_, rfl⟩
  rw [HB.out]
  go_upto_if 15 with fail
  go_cut [15] from 6 to 18 (fun _ wx => ∃ L1 z1, Rdr k p c (u + 1) bp bl L1 wx ∧ L1[19]? = some (.int .i64 z1) ∧ (∀ j, j ≠ 19 → L1[j]? = L[j]?) ∧ Kp [p] w wx ∧ wx.heap.size = w.heap.size)
  case first =>
    cases b with
    | true =>
      go_wp2_with fail
      go_meet
      case rel => exact ⟨L, z, HA.out, H19.out, fun _ _ => rfl, HKA.out.1, HKA.out.2⟩
    | false =>
      obtain ⟨c19, f19⟩ := at_ HA.out.pb 19 H19.out
      go_wp2_with fail
      go_meet
      case rel =>
        have hl := HA.out.plen
        exact ⟨L.set 19 (.int .i64 0), 0, HA.out.turn (HA.out.pb.set 19 _) (by simp only [List.length_set]; exact hl) ((Kp.refl _ _).setCell p 19 _ (by simp)) (fun j hj => lset_ne (by omega)), lset_at (by omega), fun j hj => lset_ne hj, HKA.out.1.setCell p 19 _ (by simp), by simp; exact HKA.out.2⟩
  case rest =>
    obtain ⟨L1, z1, hr1, h191, ho1, hk1, hs1⟩ := hcut
    clear HA HKA HBL
    obtain ⟨c16, f16⟩ := at_ hr1.pb 16 hr1.at16
    obtain ⟨c17, f17⟩ := at_ hr1.pb 17 hr1.at17
    have hby := hr1.byte 0 (by have := hsz.out; omega)
    rw [Nat.add_zero, Nat.add_zero, HX.out] at hby
    have HR1 := Lib.hid hr1
    have H191 := Lib.hid h191
    have HO1 := Lib.hid ho1
    have HK1 := Lib.hid hk1
    have HS1 := Lib.hid hs1
    have mz : ((m : Int) == 0) = false := by simp; omega
    clear hr1 h191 ho1 hk1 hs1
    go_wp2_with fail
    go_quiet ((go_at_call 131; exact Calls.quiet_of_same (HWD.out _)))
    obtain ⟨wb, hwb⟩ : ∃ wb : World, wb = wc.drewN nq := ⟨_, rfl⟩
    have HRB : Hid (Rdr k p c (u + 1) bp bl L1 wb) := by rw [hwb]; exact HR1.out.drewN nq
    have HKB : Hid (Kp [p] w wb ∧ wb.heap.size = w.heap.size) := by rw [hwb]; exact ⟨HK1.out.drewN nq, HS1.out⟩
    rw [← hwb]
    clear hwb c16 c17 f16 f17 hby HR1 HK1 HS1
    go_upto_if 35 with fail
    obtain ⟨bz, HBZ⟩ : ∃ bz, Hid (((l.length : Int) == 0) = bz) := ⟨_, rfl⟩
    rw [HBZ.out]
    go_cut [1, 35] from 19 to 36 (fun s1 _ wx => ∃ g cap, s1 = .slice (some ⟨g, 0, none⟩) l.length cap ∧ Row lo wx s1 l ∧ (Value.ownBlock (.slice va l.length vc) = some g ∨ w.heap.size ≤ g) ∧ lo ≤ g ∧ l.length ≤ cap ∧ cap ≤ maxLen ∧ Rdr k p c (u + 1) bp bl L1 wx ∧ Kp [p] w wx ∧ lo ≤ wx.heap.size)
    case first =>
      cases bz with
      | true =>
        have hl0 : l = [] := by
          have := HBZ.out
          rw [beq_iff_eq] at this
          exact List.eq_nil_of_length_eq_zero (by omega)
        go_wp2_with fail
        go_meet
        case rel =>
          subst hl0
          refine ⟨_, 32, rfl, ?_, .inr (by have := HKB.out.2; omega), by have := HKB.out.2; omega, by simp, by unfold maxLen; omega, ?_, ?_, ?_⟩
          · exact World.ownsRow_made wb (zeros 32).toArray 32 (by have := HKB.out.2; omega) (by unfold maxLen; omega) (by simp [zeros])
          · exact rdr_new HRB.out ((Below.refl _ _).alloc (Nat.le_refl _) _)
          · exact HKB.out.1.alloc _
          · have := HKB.out.2
            simp
            omega
      | false =>
        have hr2 : Row lo wb (.slice va l.length vc) l := HROW.out.kp HKB.out.1 (fun b hb hh => (HFAR.out b (HROW.out.own b hb).1).1 (by rw [List.mem_singleton] at hh; rw [hh]; exact k.mp p))
        obtain ⟨q1, ⟨q2, q3⟩ | ⟨g, cap, cur, q2, q3, q4, q5, q6, q7⟩⟩ := id hr2
        · have := HBZ.out
          rw [beq_eq_false_iff_ne] at this
          omega
        · obtain ⟨rfl, rfl⟩ : va = some ⟨g, 0, none⟩ ∧ vc = cap := by cases q2; exact ⟨rfl, rfl⟩
          have HR2 := Lib.hid hr2
          clear q1 q2 q3 q4 q5 q6 q7 hr2
          go_wp2_with fail
          go_meet
          case rel => exact ⟨g, _, rfl, HR2.out, .inl rfl, (HR2.out.own g rfl).1, by obtain ⟨_, ⟨h, _⟩ | ⟨_, _, _, h, _, _, h2, _⟩⟩ := HR2.out <;> cases h; exact h2, by obtain ⟨_, ⟨h, _⟩ | ⟨_, _, _, h, _, _, _, h2, _⟩⟩ := HR2.out <;> cases h; exact h2, HRB.out, HKB.out.1, by have := HKB.out.2; omega⟩
    case rest =>
      obtain ⟨g, cap, rfl, hrow2, hgo, hlg, hlc, hcm, hr2, hk2, hlo2⟩ := hcut
      obtain ⟨c16, f16⟩ := at_ hr2.pb 16 hr2.at16
      obtain ⟨c17, f17⟩ := at_ hr2.pb 17 hr2.at17
      obtain ⟨c18, f18⟩ := at_ hr2.pb 18 hr2.at18
      obtain ⟨c24, f24⟩ := at_ hr2.pb 24 ((HO1.out 24 (by omega)).trans H24.out)
      obtain ⟨c26, f26⟩ := at_ hr2.pb 26 ((HO1.out 26 (by omega)).trans H26.out)
      have hby := hr2.byte 0 (by have := hsz.out; omega)
      rw [Nat.add_zero, Nat.add_zero, HX.out] at hby
      have u1 : ((u + 1 : Nat) : Int) = (u : Int) + 1 := by omega
      rw [u1] at c18
      have hgp : ¬ g = p := fun e => (HFAR.out g hlg).1 (by rw [e]; exact k.mp p)
      have hpg : ¬ p = g := fun e => hgp e.symm
      have hbound : Hid (bp + m ≤ 541) := Lib.hid (by have := hsz.out; omega)
      have HR2 := Lib.hid hr2
      have HK2 := Lib.hid hk2
      have HROW2 := Lib.hid hrow2
      have HGO := Lib.hid hgo
      have HLO2 := Lib.hid hlo2
      have HLG := Lib.hid hlg
      clear hr2 hk2 hrow2 hgo hlo2 hlg u1 hmk HWD
      by_cases hroom : m = 1 ∧ l.length + 1 ≤ cap
      · obtain ⟨rfl, hcap⟩ := hroom
        obtain ⟨⟨v0, cg⟩, fg⟩ := row_spare HROW2.out (by omega)
        obtain ⟨n, HN⟩ : ∃ n, Hid (l.length = n) := ⟨_, rfl⟩
        rw [HN.out] at cg fg hcap hlc ⊢
        have n2 : decide ((n : Int) + 1 ≤ (cap : Int)) = true := by simp; omega
        have n3 : (n : Int) + 1 - 1 = (n : Int) := by omega
        have n4 : (n : Int) < (n : Int) + 1 := by omega
        have n5 : (n : Int) < ((n + 1 : Nat) : Int) := by omega
        have n6 : (0 : Int) ≤ (n : Int) := by omega
        have n7 : n < n + 1 := by omega
        have n8 : (n : Int) + 1 ≤ (cap : Int) := by omega
        have n9 : (cap : Int) ≤ 9223372036854775807 := by unfold maxLen at hcm; omega
        go_wp2_with fail
        refine wp_region_still_tail 14 (by kernel_rfl) (by kernel_rfl) ?_
        simp only [List.take_succ_cons, List.take_zero, List.drop_succ_cons, List.drop_zero]
        repeat still_step
        refine wpStill_nil ?_
        change wpList _ _ _ _ _ wc.drew
        go_wp2_with fail
        go_ret
        have hkg : Kp [g] wc (wc.setCell ⟨g, n, none⟩ (.int .u8 x)) := (Kp.refl _ _).setCell g n _ (by simp)
        have hrg := rdr_far HR2.out hkg (fun b hb => by simp at hb; subst hb; exact HFAR.out _ HLG.out)
        have hgg := row_room HROW2.out (by have := HN.out; omega) x
        rw [HN.out] at hgg
        have hnx1 : news = [x] := by
          have h1 := HNEWS.out
          match news, h1, HNB.out with
          | [y], _, h2 =>
            have := h2 0 (by simp)
            rw [Nat.add_zero, HX.out] at this
            have : y = x := this
            rw [this]
        generalize wc.setCell ⟨g, n, none⟩ (.int .u8 x) = wg at *
        have hpl := HR2.out.plen
        have hb6 := (((hrg.pb.set 17 (.int .i64 ((bp : Int) + 1))).set 24 (.int .i64 ((mi : Int) + 1))).set 26 (.int .i64 ((mc : Int) + 1))).set 18 (.int .i64 (u : Int))
        have hk6 := ((((Kp.refl [p] wg).setCell p 17 (.int .i64 ((bp : Int) + 1)) (by simp)).setCell p 24 (.int .i64 ((mi : Int) + 1)) (by simp)).setCell p 26 (.int .i64 ((mc : Int) + 1)) (by simp)).setCell p 18 (.int .i64 (u : Int)) (by simp)
        have hst := hrg.step hb6.drew (by simp only [List.length_set]; exact hpl) hk6.drew (by rw [HM.out, lset_ne (by omega), lset_ne (by omega), lset_ne (by omega), lset_at (by omega)]; first | rfl | (congr 2)) (by rw [lset_at (by simp only [List.length_set]; omega)]) (fun j hj => by rw [lset_ne (by omega), lset_ne (by omega), lset_ne (by omega), lset_ne (by omega)])
        rw [HM.out] at hst ⊢
        refine ⟨_, rfl, ?_, ⟨_, hst, ?_, ?_, ⟨z1, ?_⟩, fun j h1 h2 h3 h4 h5 => ?_⟩, HGO.out.imp (fun h => h.symm) (fun h => ⟨g, rfl, h⟩), ?_⟩
        · exact by rw [hnx1]; exact (hgg.kp hk6 (fun b hb hh => by cases hb; exact hgp (List.mem_singleton.1 hh))).drew
        · rw [lset_ne (by omega), lset_ne (by omega), lset_at (by simp only [List.length_set]; omega)]; rfl
        · rw [lset_ne (by omega), lset_at (by simp only [List.length_set]; omega)]; rfl
        · rw [lset_ne (by omega), lset_ne (by omega), lset_ne (by omega), lset_ne (by omega)]; exact H191.out
        · rw [lset_ne (by omega), lset_ne (by omega), lset_ne (by omega), lset_ne (by omega)]; exact HO1.out j (by omega)
        · rcases HGO.out with hg | hg
          · exact ⟨[p, g], ((HK2.out.mono (by simp)).trans (hkg.mono (by simp))).trans (hk6.drew.mono (by simp)), fun b hb => by simp at hb; rcases hb with rfl | rfl; exact .inl rfl; exact .inr hg⟩
          · exact ⟨[p], (Kp.trans_new HK2.out hkg (fun b hb => by simp at hb; subst hb; exact .inr hg)).trans hk6.drew, fun b hb => by simp at hb; exact .inl hb⟩
      · have p1 : (bp : Int) ≤ (bp : Int) + (m : Int) := by omega
        have p2 : (bp : Int) + (m : Int) ≤ 1536 := by have := hbound.out; omega
        have p3 : (bp : Int) ≤ 1536 := by omega
        have p4 : (0 : Int) ≤ (bp : Int) + (m : Int) := by omega
        have p5 : (0 : Int) ≤ (m : Int) := by omega
        have p6 : (m : Int) ≤ 4 := by omega
        have p7 : (cap : Int) ≤ 9223372036854775807 := by unfold maxLen at hcm; omega
        obtain ⟨n, HN⟩ : ∃ n, Hid (l.length = n) := ⟨_, rfl⟩
        rw [HN.out] at hlc hl hroom ⊢
        by_cases hm1 : m = 1
        · subst hm1
          have p8 : decide ((n : Int) + 1 ≤ (cap : Int)) = false := by simp; omega
          go_wp2_with fail
          refine wp_region_still_tail 16 (by kernel_rfl) (by kernel_rfl) ?_
          simp only [List.take_succ_cons, List.take_zero, List.drop_succ_cons, List.drop_zero]
          iterate 15 still_step
          refine wpStill_step (fun K hK => ?_)
          go_simp
          rw [show IntKind.i64.wrap ((bp : Int) + 1) = (bp : Int) + 1 by rw [IntKind.wrap_i64]; omega, if_pos ⟨by omega, by omega⟩, if_pos (show bp ≤ ((bp : Int) + 1).toNat by omega), if_neg (show ¬ 1536 = bp by omega), show ((bp : Int) + 1).toNat - bp = 1 by omega]
          go_simp
          refine hK _ ?_
          clear hK K
          refine wpStill_nil ?_
          change wpList _ _ _ _ _ wc.drew
          refine wpList_add rfl (.tmp 75) (.tmp 90) rfl lo _ l news rfl (by have := HROW2.out; rw [HN.out] at this; exact this.drew) ⟨k.q, bp, none⟩ 1 (1536 - bp) rfl HNEWS.out.symm (fun j hj => by rw [Addr.add_lit, HNB.out j hj]; exact HR2.out.byte j (by have := HNEWS.out; have := hsz.out; omega)) (by rw [HNEWS.out, HN.out]; omega) HLO2.out ?_
          intro v' wg hrow' hgrow hgr
          have hkg : Kp [g] wc wg := (Kp.refl [g] wc).drew.trans (grown_kp hgrow (fun b hb => by cases hb; simp))
          have hrg := rdr_far HR2.out hkg (fun b hb => by simp at hb; subst hb; exact HFAR.out _ HLG.out)
          have hgrew : Grew w (.slice va l.length vc) v' := by
            rcases hgr with e | ⟨b, e1, e2⟩
            · rcases HGO.out with hg | hg
              · exact .inl (e.trans hg.symm)
              · exact .inr ⟨g, e, hg⟩
            · exact .inr ⟨b, e1, Nat.le_trans HK2.out.size e2⟩
          have hvp : ∀ b, v'.ownBlock = some b → b ∉ [p] := by
            intro b hb hh
            rw [List.mem_singleton] at hh
            have := (hrow'.own b hb).1
            exact (HFAR.out b this).1 (by rw [hh]; exact k.mp p)
          clear c16 f16 c17 f17 c18 f18 c24 f24 c26 f26 hby
          obtain ⟨c17, f17⟩ := at_ hrg.pb 17 hrg.at17
          obtain ⟨c18, f18⟩ := at_ hrg.pb 18 hrg.at18
          obtain ⟨c24, f24⟩ := at_ hrg.pb 24 ((HO1.out 24 (by omega)).trans H24.out)
          obtain ⟨c26, f26⟩ := at_ hrg.pb 26 ((HO1.out 26 (by omega)).trans H26.out)
          have u1 : ((u + 1 : Nat) : Int) = (u : Int) + 1 := by omega
          rw [u1] at c18
          have HRG := Lib.hid hrg
          have HKG := Lib.hid hkg
          have HROW' := Lib.hid hrow'
          have HGR := Lib.hid hgrew
          have HVP := Lib.hid hvp
          clear hrow' hgrow hgr hrg hkg hgrew hvp u1
          go_wp2_with fail
          go_ret
          have hrg := HRG.out
          have hkg := HKG.out
          have hpl := HR2.out.plen
          have hb6 := (((hrg.pb.set 17 (.int .i64 ((bp : Int) + 1))).set 24 (.int .i64 ((mi : Int) + 1))).set 26 (.int .i64 ((mc : Int) + 1))).set 18 (.int .i64 (u : Int))
          have hk6 := ((((Kp.refl [p] wg).setCell p 17 (.int .i64 ((bp : Int) + 1)) (by simp)).setCell p 24 (.int .i64 ((mi : Int) + 1)) (by simp)).setCell p 26 (.int .i64 ((mc : Int) + 1)) (by simp)).setCell p 18 (.int .i64 (u : Int)) (by simp)
          have hst := hrg.step hb6 (by simp only [List.length_set]; exact hpl) hk6 (by rw [HM.out, lset_ne (by omega), lset_ne (by omega), lset_ne (by omega), lset_at (by omega)]; first | rfl | (congr 2)) (by rw [lset_at (by simp only [List.length_set]; omega)]) (fun j hj => by rw [lset_ne (by omega), lset_ne (by omega), lset_ne (by omega), lset_ne (by omega)])
          rw [HM.out] at hst ⊢
          refine ⟨_, rfl, HROW'.out.kp hk6 HVP.out, ⟨_, hst, ?_, ?_, ⟨z1, ?_⟩, fun j h1 h2 h3 h4 h5 => ?_⟩, HGR.out, ?_⟩
          · rw [lset_ne (by omega), lset_ne (by omega), lset_at (by simp only [List.length_set]; omega)]; rfl
          · rw [lset_ne (by omega), lset_at (by simp only [List.length_set]; omega)]; rfl
          · rw [lset_ne (by omega), lset_ne (by omega), lset_ne (by omega), lset_ne (by omega)]; exact H191.out
          · rw [lset_ne (by omega), lset_ne (by omega), lset_ne (by omega), lset_ne (by omega)]; exact HO1.out j (by omega)
          · rcases HGO.out with hg | hg
            · exact ⟨[p, g], ((HK2.out.mono (by simp)).trans (hkg.mono (by simp))).trans (hk6.mono (by simp)), fun b hb => by simp at hb; rcases hb with rfl | rfl; exact .inl rfl; exact .inr hg⟩
            · exact ⟨[p], (Kp.trans_new HK2.out hkg (fun b hb => by simp at hb; subst hb; exact .inr hg)).trans hk6, fun b hb => by simp at hb; exact .inl hb⟩
        · have p8 : ((m : Int) == 1) = false := by simp; omega
          go_wp2_with fail
          refine wp_region_still_tail 16 (by kernel_rfl) (by kernel_rfl) ?_
          simp only [List.take_succ_cons, List.take_zero, List.drop_succ_cons, List.drop_zero]
          iterate 15 still_step
          refine wpStill_step (fun K hK => ?_)
          go_simp
          rw [show IntKind.i64.wrap ((bp : Int) + (m : Int)) = (bp : Int) + (m : Int) by rw [IntKind.wrap_i64]; omega, if_pos ⟨by omega, by omega⟩, if_pos (show bp ≤ ((bp : Int) + (m : Int)).toNat by omega), if_neg (show ¬ 1536 = bp by omega), show ((bp : Int) + (m : Int)).toNat - bp = m by omega]
          go_simp
          refine hK _ ?_
          clear hK K
          refine wpStill_nil ?_
          change wpList _ _ _ _ _ wc.drew
          refine wpList_add rfl (.tmp 75) (.tmp 90) rfl lo _ l news rfl (by have := HROW2.out; rw [HN.out] at this; exact this.drew) ⟨k.q, bp, none⟩ m (1536 - bp) rfl HNEWS.out.symm (fun j hj => by rw [Addr.add_lit, HNB.out j hj]; exact HR2.out.byte j (by have := HNEWS.out; have := hsz.out; omega)) (by rw [HNEWS.out, HN.out]; omega) HLO2.out ?_
          intro v' wg hrow' hgrow hgr
          have hkg : Kp [g] wc wg := (Kp.refl [g] wc).drew.trans (grown_kp hgrow (fun b hb => by cases hb; simp))
          have hrg := rdr_far HR2.out hkg (fun b hb => by simp at hb; subst hb; exact HFAR.out _ HLG.out)
          have hgrew : Grew w (.slice va l.length vc) v' := by
            rcases hgr with e | ⟨b, e1, e2⟩
            · rcases HGO.out with hg | hg
              · exact .inl (e.trans hg.symm)
              · exact .inr ⟨g, e, hg⟩
            · exact .inr ⟨b, e1, Nat.le_trans HK2.out.size e2⟩
          have hvp : ∀ b, v'.ownBlock = some b → b ∉ [p] := by
            intro b hb hh
            rw [List.mem_singleton] at hh
            have := (hrow'.own b hb).1
            exact (HFAR.out b this).1 (by rw [hh]; exact k.mp p)
          clear c16 f16 c17 f17 c18 f18 c24 f24 c26 f26 hby
          obtain ⟨c17, f17⟩ := at_ hrg.pb 17 hrg.at17
          obtain ⟨c18, f18⟩ := at_ hrg.pb 18 hrg.at18
          obtain ⟨c24, f24⟩ := at_ hrg.pb 24 ((HO1.out 24 (by omega)).trans H24.out)
          obtain ⟨c26, f26⟩ := at_ hrg.pb 26 ((HO1.out 26 (by omega)).trans H26.out)
          have u1 : ((u + 1 : Nat) : Int) = (u : Int) + 1 := by omega
          rw [u1] at c18
          have HRG := Lib.hid hrg
          have HKG := Lib.hid hkg
          have HROW' := Lib.hid hrow'
          have HGR := Lib.hid hgrew
          have HVP := Lib.hid hvp
          clear hrow' hgrow hgr hrg hkg hgrew hvp u1
          go_wp2_with fail
          go_ret
          have hrg := HRG.out
          have hkg := HKG.out
          have hpl := HR2.out.plen
          have hb6 := (((hrg.pb.set 17 (.int .i64 ((bp : Int) + (m : Int)))).set 24 (.int .i64 ((mi : Int) + 1))).set 26 (.int .i64 ((mc : Int) + 1))).set 18 (.int .i64 (u : Int))
          have hk6 := ((((Kp.refl [p] wg).setCell p 17 (.int .i64 ((bp : Int) + (m : Int))) (by simp)).setCell p 24 (.int .i64 ((mi : Int) + 1)) (by simp)).setCell p 26 (.int .i64 ((mc : Int) + 1)) (by simp)).setCell p 18 (.int .i64 (u : Int)) (by simp)
          have hst := hrg.step hb6 (by simp only [List.length_set]; exact hpl) hk6 (by rw [HM.out, lset_ne (by omega), lset_ne (by omega), lset_ne (by omega), lset_at (by omega)]; first | rfl | (congr 2)) (by rw [lset_at (by simp only [List.length_set]; omega)]) (fun j hj => by rw [lset_ne (by omega), lset_ne (by omega), lset_ne (by omega), lset_ne (by omega)])
          rw [HM.out] at hst ⊢
          refine ⟨_, rfl, HROW'.out.kp hk6 HVP.out, ⟨_, hst, ?_, ?_, ⟨z1, ?_⟩, fun j h1 h2 h3 h4 h5 => ?_⟩, HGR.out, ?_⟩
          · rw [lset_ne (by omega), lset_ne (by omega), lset_at (by simp only [List.length_set]; omega)]; rfl
          · rw [lset_ne (by omega), lset_at (by simp only [List.length_set]; omega)]; rfl
          · rw [lset_ne (by omega), lset_ne (by omega), lset_ne (by omega), lset_ne (by omega)]; exact H191.out
          · rw [lset_ne (by omega), lset_ne (by omega), lset_ne (by omega), lset_ne (by omega)]; exact HO1.out j (by omega)
          · rcases HGO.out with hg | hg
            · exact ⟨[p, g], ((HK2.out.mono (by simp)).trans (hkg.mono (by simp))).trans (hk6.mono (by simp)), fun b hb => by simp at hb; rcases hb with rfl | rfl; exact .inl rfl; exact .inr hg⟩
            · exact ⟨[p], (Kp.trans_new HK2.out hkg (fun b hb => by simp at hb; subst hb; exact .inr hg)).trans hk6, fun b hb => by simp at hb; exact .inl hb⟩
end Go.Proofs.YtocbbekciphjgaaDoor.Qd
