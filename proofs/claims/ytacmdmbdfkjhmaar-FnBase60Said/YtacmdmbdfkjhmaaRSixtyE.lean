/- The reference's form of a number of base 60, and the law: the walks. For texts of at most 1000 bytes; longer texts are let by. -/
import Derived.Test.YtacmdmbdfkjhmaaRSixtyD
namespace Go.Proofs.YtacmdmbdfkjhmaaR.Sixty
open Go.RowKit
theorem sgn_le (s : ByteArray) : sgn s ≤ s.size := by unfold sgn; split <;> omega
/-- The digit of reference at a place: two contracts in one. -/
theorem rs_dig {s : ByteArray} {k : Nat} (hk : k < s.size) (hd : dg (bt s k) = true) (w : World) : Calls Try.prog 31 #[.int .u8 (s[k].toNat : Int)] w fun e w' => e = .returned (.int .i64 ((s[k].toNat : Int) - 48)) ∧ w = w' := by
  have := dg_bounds hd
  rw [bt_of s k hk] at this
  exact rs_yes _ w this.1 this.2
theorem rs_big {s : ByteArray} {k : Nat} (hk : k < s.size) (hd : dg (bt s k) = false) (w : World) : Calls Try.prog 31 #[.int .u8 (s[k].toNat : Int)] w (Big w) := by
  have := dg_not hd
  have hr := bt_range s k
  rw [bt_of s k hk] at this hr
  exact rs_no _ w hr.1 hr.2 this
set_option maxHeartbeats 2000000 in
theorem sixties_any (s : ByteArray) (w : World) (hs : s.size ≤ 1000) :
    Calls Try.prog 19 #[.string s] w fun e w' => e = .returned (.bool (b60 s)) ∧ w = w' := by
  have hsg := fun w => signed_any s w
  have hle := sgn_le s
  rw [b60_sgn]
  generalize sgn s = a at hsg hle
  have Hsg := Lib.hid hsg
  clear hsg
  by_cases ha : a < s.size
  · cases hd : dg (bt s a) with
    | false =>
      have hr : road s a = false := by unfold road; rw [if_neg (fun h => by rw [hd] at h; simp at h)]
      have hb := fun w => rs_big ha hd w
      have Hb := Lib.hid hb
      rw [hr]
      clear hr hb hd
      have hne : ((a : Int) == (s.size : Int)) = false := by simp; omega
      go_enter Try.func19, Try.ntmps19
      go_wp2_with fail
      refine (Hsg.out _).mono ?_
      rintro e w' ⟨rfl, rfl⟩
      go_wp2_with fail
      refine (Hb.out _).mono ?_
      rintro e w' ⟨v, rfl, hv, rfl⟩
      go_wp2_with fail
      go_ret
      exact ⟨rfl, rfl⟩
    | true =>
      have hra := road_after s a ⟨ha, hd⟩
      have hb := fun w => rs_dig ha hd w
      have hbd := dg_bounds hd
      rw [bt_of s a ha] at hbd
      obtain ⟨hbd1, hbd2⟩ := hbd
      have Hb := Lib.hid hb
      have Hra := Lib.hid hra
      clear hb hd hra
      have hne : ((a : Int) == (s.size : Int)) = false := by simp; omega
      go_enter Try.func19, Try.ntmps19
      go_wp2_with fail
      refine (Hsg.out _).mono ?_
      rintro e w' ⟨rfl, rfl⟩
      go_wp2_with fail
      refine (Hb.out _).mono ?_
      rintro e w' ⟨rfl, rfl⟩
      go_wp2_with fail
      clear hbd1 hbd2 hne
      go_loop [3] (fun i => ∃ k : Nat, k ≤ s.size ∧ i = .int .i64 k ∧ stop du s a (s.size - a) = stop du s k (s.size - k)) (fun i => s.size - (intOf i).toNat)
      case atStart => exact ⟨a, by omega, rfl, rfl⟩
      case round =>
        obtain ⟨k, hk, rfl, hst⟩ := hrel
        have Hst := Lib.hid hst
        clear hst
        by_cases hdu : k < s.size ∧ du (bt s k) = true
        · obtain ⟨hks, hdu⟩ := hdu
          have hyes := stop_yes (p := du) hks hdu
          have Hyes := Lib.hid hyes
          clear hyes
          cases hd : dg (bt s k) with
          | true =>
            have hb := fun w => rs_dig hks hd w
            have hbd := dg_bounds hd
            rw [bt_of s k hks] at hbd
            obtain ⟨hbd1, hbd2⟩ := hbd
            have Hb := Lib.hid hb
            clear hb hd hdu
            go_wp2_with fail
            refine (Hb.out _).mono ?_
            rintro e w' ⟨rfl, rfl⟩
            go_wp2_with fail
            go_round
            case rel => exact ⟨k + 1, by omega, by go_num, by rw [Hst.out, Hyes.out]⟩
            case measure => simp [intOf]; omega
          | false =>
            have hb := fun w => rs_big hks hd w
            have Hb := Lib.hid hb
            have h95 : ((s[k].toNat : Int) == 95) = true := by
              rw [← bt_of s k hks]
              simpa [du, hd] using hdu
            clear hb hd hdu
            go_wp2_with fail
            refine (Hb.out _).mono ?_
            rintro e w' ⟨v, rfl, hv, rfl⟩
            go_wp2_with fail
            go_round
            case rel => exact ⟨k + 1, by omega, by go_num, by rw [Hst.out, Hyes.out]⟩
            case measure => simp [intOf]; omega
        · have hend : road s a = after s 0 k := by
            rw [Hra.out, Hst.out]
            congr 1
            by_cases x : k < s.size
            · exact stop_no (by cases y : du (bt s k) with | false => rfl | true => exact (hdu ⟨x, y⟩).elim)
            · exact stop_end (by omega)
          have Hend := Lib.hid hend
          clear hend
          by_cases hks : k < s.size
          · have hdf : dg (bt s k) = false := by cases y : dg (bt s k) with | false => rfl | true => exact (hdu ⟨hks, by simp [du, y]⟩).elim
            have h95 : ((s[k].toNat : Int) == 95) = false := by
              rw [← bt_of s k hks]
              cases y : (bt s k == 95) with | false => rfl | true => exact (hdu ⟨hks, by simp [du, y]⟩).elim
            have hb := fun w => rs_big hks hdf w
            have Hb := Lib.hid hb
            clear hb hdf hdu
            go_wp2_with fail
            refine (Hb.out _).mono ?_
            rintro e w' ⟨v, rfl, hv, rfl⟩
            go_wp2_with fail
            go_loop [3, 4] (fun i n => ∃ k p : Nat, k ≤ s.size ∧ p ≤ k ∧ i = .int .i64 k ∧ n = .int .i64 p ∧ road s a = after s p k) (fun i _ => s.size + 3 - (intOf i).toNat)
            case atStart => exact ⟨k, 0, by omega, by omega, rfl, rfl, Hend.out⟩
            case round =>
              clear Hend Hst hk
              obtain ⟨k, p, hk, hp, rfl, rfl, hst⟩ := hrel
              have Hst := Lib.hid hst
              clear hst
              by_cases hgo : k + 1 < s.size ∧ bt s k = 58 ∧ dg (bt s (k + 1)) = true
              · obtain ⟨hk1, hc, hd1⟩ := hgo
                have hks : k < s.size := by omega
                have hcb : ((s[k].toNat : Int) == 58) = true := by rw [← bt_of s k hks, hc]; rfl
                have hb := fun w => rs_dig hk1 hd1 w
                have hbd := dg_bounds hd1
                rw [bt_of s (k + 1) hk1] at hbd
                obtain ⟨hbd1, hbd2⟩ := hbd
                have Hb := Lib.hid hb
                clear hb
                by_cases hk2 : k + 2 < s.size
                · cases hd2 : dg (bt s (k + 2)) with
                  | true =>
                    have hb2 := fun w => rs_dig hk2 hd2 w
                    have hbe := dg_bounds hd2
                    rw [bt_of s (k + 2) hk2] at hbe
                    obtain ⟨hbe1, hbe2⟩ := hbe
                    have Hb2 := Lib.hid hb2
                    clear hb2
                    by_cases h5 : 53 < bt s (k + 1)
                    · have hfin : road s a = false := by rw [Hst.out, after_high hk2 hc hd1 hd2 h5]
                      have Hfin := Lib.hid hfin
                      rw [bt_of s (k + 1) hk1] at h5
                      clear hfin hc hd1 hd2
                      go_wp2_with fail
                      refine (Hb.out _).mono ?_
                      rintro e w' ⟨rfl, rfl⟩
                      go_wp2_with fail
                      refine (Hb2.out _).mono ?_
                      rintro e w' ⟨rfl, rfl⟩
                      go_wp2_with fail
                      refine (Hb.out _).mono ?_
                      rintro e w' ⟨rfl, rfl⟩
                      go_wp2_with fail
                      go_ret
                      exact ⟨ret_bool Hfin.out.symm, rfl⟩
                    · have hnext : road s a = after s (p + 1) (k + 3) := by rw [Hst.out, after_two hk2 hc hd1 hd2 h5]
                      have Hnext := Lib.hid hnext
                      rw [bt_of s (k + 1) hk1] at h5
                      clear hnext hc hd1 hd2
                      go_wp2_with fail
                      refine (Hb.out _).mono ?_
                      rintro e w' ⟨rfl, rfl⟩
                      go_wp2_with fail
                      refine (Hb2.out _).mono ?_
                      rintro e w' ⟨rfl, rfl⟩
                      go_wp2_with fail
                      refine (Hb.out _).mono ?_
                      rintro e w' ⟨rfl, rfl⟩
                      go_wp2_with fail
                      go_round
                      case rel => exact ⟨k + 3, p + 1, by omega, by omega, by go_num, by go_num, Hnext.out⟩
                      case measure => simp [intOf]; omega
                  | false =>
                    have hb2 := fun w => rs_big hk2 hd2 w
                    have Hb2 := Lib.hid hb2
                    have hnext : road s a = after s (p + 1) (k + 2) := by rw [Hst.out, after_one hk1 hc hd1 (fun x => by rw [hd2] at x; simp at x)]
                    have Hnext := Lib.hid hnext
                    clear hnext hc hd1 hd2 hb2
                    go_wp2_with fail
                    refine (Hb.out _).mono ?_
                    rintro e w' ⟨rfl, rfl⟩
                    go_wp2_with fail
                    refine (Hb2.out _).mono ?_
                    rintro e w' ⟨v, rfl, hv, rfl⟩
                    go_wp2_with fail
                    go_round
                    case rel => exact ⟨k + 2, p + 1, by omega, by omega, by go_num, by go_num, Hnext.out⟩
                    case measure => simp [intOf]; omega
                · have hnext : road s a = after s (p + 1) (k + 2) := by rw [Hst.out, after_one hk1 hc hd1 (fun x => hk2 x.1)]
                  have Hnext := Lib.hid hnext
                  clear hnext hc hd1
                  go_wp2_with fail
                  refine (Hb.out _).mono ?_
                  rintro e w' ⟨rfl, rfl⟩
                  go_wp2_with fail
                  go_round
                  case rel => exact ⟨k + 2, p + 1, by omega, by omega, by go_num, by go_num, Hnext.out⟩
                  case measure => simp [intOf]; omega
              · have hend := after_end (n := p) hk hgo
                rw [← Hst.out] at hend
                have Hend := Lib.hid hend
                clear hend
                have hcases : (¬ k + 1 < s.size) ∨ (∃ h : k < s.size, k + 1 < s.size ∧ ((s[k].toNat : Int) == 58) = false) ∨ (∃ h : k + 1 < s.size, ((s[k].toNat : Int) == 58) = true ∧ dg (bt s (k + 1)) = false) := by
                  by_cases x : k + 1 < s.size
                  · by_cases y : bt s k = 58
                    · right; right
                      refine ⟨x, by rw [← bt_of s k (by omega), y]; rfl, ?_⟩
                      cases z : dg (bt s (k + 1)) with | false => rfl | true => exact (hgo ⟨x, y, z⟩).elim
                    · right; left
                      exact ⟨by omega, x, by rw [← bt_of s k (by omega)]; simpa using y⟩
                  · exact .inl x
                clear hgo
                by_cases hp0 : p = 0
                · subst hp0
                  have Hfin := Lib.hid (show road s a = false by rw [Hend.out, if_pos rfl])
                  rcases hcases with h1 | ⟨h1, h2, h3⟩ | ⟨h1, h2, h3⟩
                  · go_wp2_with fail
                    go_ret
                    exact ⟨ret_bool Hfin.out.symm, rfl⟩
                  · go_wp2_with fail
                    go_ret
                    exact ⟨ret_bool Hfin.out.symm, rfl⟩
                  · have hb := fun w => rs_big h1 h3 w
                    have Hb := Lib.hid hb
                    clear hb h3
                    have hks : k < s.size := by omega
                    go_wp2_with fail
                    refine (Hb.out _).mono ?_
                    rintro e w' ⟨v, rfl, hv, rfl⟩
                    go_wp2_with fail
                    go_ret
                    exact ⟨ret_bool Hfin.out.symm, rfl⟩
                · have hp0b : ((p : Int) == 0) = false := by simpa using hp0
                  by_cases hk46 : k < s.size ∧ bt s k = 46
                  · obtain ⟨hks, h46⟩ := hk46
                    have h46b : ((s[k].toNat : Int) == 46) = true := by rw [← bt_of s k hks, h46]; rfl
                    have Hfin := Lib.hid (show road s a = (stop du s (k + 1) (s.size - (k + 1)) == s.size) by rw [Hend.out, if_neg hp0, if_pos ⟨hks, h46⟩])
                    clear h46 Hend
                    rcases hcases with h1 | ⟨h1, h2, h3⟩ | ⟨h1, h2, h3⟩
                    · go_wp2_with fail
                      go_loop [3] (fun i => ∃ q : Nat, q ≤ s.size ∧ i = .int .i64 q ∧ stop du s (k + 1) (s.size - (k + 1)) = stop du s q (s.size - q)) (fun i => s.size - (intOf i).toNat)
                      case atStart => exact ⟨k + 1, by omega, by go_num, rfl⟩
                      case round =>
                        obtain ⟨q, hq, rfl, hsq⟩ := hrel
                        have Hsq := Lib.hid hsq
                        clear hsq
                        by_cases hdu : q < s.size ∧ du (bt s q) = true
                        · obtain ⟨hqs, hdu⟩ := hdu
                          have hyes := stop_yes (p := du) hqs hdu
                          have Hyes := Lib.hid hyes
                          clear hyes
                          cases hd : dg (bt s q) with
                          | true =>
                            have hb := fun w => rs_dig hqs hd w
                            have hbd := dg_bounds hd
                            rw [bt_of s q hqs] at hbd
                            obtain ⟨hbd1, hbd2⟩ := hbd
                            have Hb := Lib.hid hb
                            clear hb hd hdu
                            go_wp2_with fail
                            refine (Hb.out _).mono ?_
                            rintro e w' ⟨rfl, rfl⟩
                            go_wp2_with fail
                            go_round
                            case rel => exact ⟨q + 1, by omega, by go_num, by rw [Hsq.out, Hyes.out]⟩
                            case measure => simp [intOf]; omega
                          | false =>
                            have hb := fun w => rs_big hqs hd w
                            have Hb := Lib.hid hb
                            have h95 : ((s[q].toNat : Int) == 95) = true := by
                              rw [← bt_of s q hqs]
                              simpa [du, hd] using hdu
                            clear hb hd hdu
                            go_wp2_with fail
                            refine (Hb.out _).mono ?_
                            rintro e w' ⟨v, rfl, hv, rfl⟩
                            go_wp2_with fail
                            go_round
                            case rel => exact ⟨q + 1, by omega, by go_num, by rw [Hsq.out, Hyes.out]⟩
                            case measure => simp [intOf]; omega
                        · have hend : road s a = (q == s.size) := by
                            rw [Hfin.out, Hsq.out]
                            congr 1
                            by_cases x : q < s.size
                            · exact stop_no (by cases y : du (bt s q) with | false => rfl | true => exact (hdu ⟨x, y⟩).elim)
                            · exact stop_end (by omega)
                          have Hend := Lib.hid hend
                          clear hend
                          by_cases hqs : q < s.size
                          · have hdf : dg (bt s q) = false := by cases y : dg (bt s q) with | false => rfl | true => exact (hdu ⟨hqs, by simp [du, y]⟩).elim
                            have h95 : ((s[q].toNat : Int) == 95) = false := by
                              rw [← bt_of s q hqs]
                              cases y : (bt s q == 95) with | false => rfl | true => exact (hdu ⟨hqs, by simp [du, y]⟩).elim
                            have hb := fun w => rs_big hqs hdf w
                            have Hb := Lib.hid hb
                            clear hb hdf hdu
                            go_wp2_with fail
                            refine (Hb.out _).mono ?_
                            rintro e w' ⟨v, rfl, hv, rfl⟩
                            go_wp2_with fail
                            go_ret
                            exact ⟨ret_bool (by rw [Hend.out, Bool.eq_iff_iff]; simp; omega), rfl⟩
                          · clear hdu
                            go_wp2_with fail
                            go_ret
                            exact ⟨ret_bool (by rw [Hend.out, Bool.eq_iff_iff]; simp; omega), rfl⟩
                    · go_wp2_with fail
                      go_loop [3] (fun i => ∃ q : Nat, q ≤ s.size ∧ i = .int .i64 q ∧ stop du s (k + 1) (s.size - (k + 1)) = stop du s q (s.size - q)) (fun i => s.size - (intOf i).toNat)
                      case atStart => exact ⟨k + 1, by omega, by go_num, rfl⟩
                      case round =>
                        obtain ⟨q, hq, rfl, hsq⟩ := hrel
                        have Hsq := Lib.hid hsq
                        clear hsq
                        by_cases hdu : q < s.size ∧ du (bt s q) = true
                        · obtain ⟨hqs, hdu⟩ := hdu
                          have hyes := stop_yes (p := du) hqs hdu
                          have Hyes := Lib.hid hyes
                          clear hyes
                          cases hd : dg (bt s q) with
                          | true =>
                            have hb := fun w => rs_dig hqs hd w
                            have hbd := dg_bounds hd
                            rw [bt_of s q hqs] at hbd
                            obtain ⟨hbd1, hbd2⟩ := hbd
                            have Hb := Lib.hid hb
                            clear hb hd hdu
                            go_wp2_with fail
                            refine (Hb.out _).mono ?_
                            rintro e w' ⟨rfl, rfl⟩
                            go_wp2_with fail
                            go_round
                            case rel => exact ⟨q + 1, by omega, by go_num, by rw [Hsq.out, Hyes.out]⟩
                            case measure => simp [intOf]; omega
                          | false =>
                            have hb := fun w => rs_big hqs hd w
                            have Hb := Lib.hid hb
                            have h95 : ((s[q].toNat : Int) == 95) = true := by
                              rw [← bt_of s q hqs]
                              simpa [du, hd] using hdu
                            clear hb hd hdu
                            go_wp2_with fail
                            refine (Hb.out _).mono ?_
                            rintro e w' ⟨v, rfl, hv, rfl⟩
                            go_wp2_with fail
                            go_round
                            case rel => exact ⟨q + 1, by omega, by go_num, by rw [Hsq.out, Hyes.out]⟩
                            case measure => simp [intOf]; omega
                        · have hend : road s a = (q == s.size) := by
                            rw [Hfin.out, Hsq.out]
                            congr 1
                            by_cases x : q < s.size
                            · exact stop_no (by cases y : du (bt s q) with | false => rfl | true => exact (hdu ⟨x, y⟩).elim)
                            · exact stop_end (by omega)
                          have Hend := Lib.hid hend
                          clear hend
                          by_cases hqs : q < s.size
                          · have hdf : dg (bt s q) = false := by cases y : dg (bt s q) with | false => rfl | true => exact (hdu ⟨hqs, by simp [du, y]⟩).elim
                            have h95 : ((s[q].toNat : Int) == 95) = false := by
                              rw [← bt_of s q hqs]
                              cases y : (bt s q == 95) with | false => rfl | true => exact (hdu ⟨hqs, by simp [du, y]⟩).elim
                            have hb := fun w => rs_big hqs hdf w
                            have Hb := Lib.hid hb
                            clear hb hdf hdu
                            go_wp2_with fail
                            refine (Hb.out _).mono ?_
                            rintro e w' ⟨v, rfl, hv, rfl⟩
                            go_wp2_with fail
                            go_ret
                            exact ⟨ret_bool (by rw [Hend.out, Bool.eq_iff_iff]; simp; omega), rfl⟩
                          · clear hdu
                            go_wp2_with fail
                            go_ret
                            exact ⟨ret_bool (by rw [Hend.out, Bool.eq_iff_iff]; simp; omega), rfl⟩
                    · have hb := fun w => rs_big h1 h3 w
                      have Hb := Lib.hid hb
                      clear hb h3
                      go_wp2_with fail
                      refine (Hb.out _).mono ?_
                      rintro e w' ⟨v, rfl, hv, rfl⟩
                      go_wp2_with fail
                      go_loop [3] (fun i => ∃ q : Nat, q ≤ s.size ∧ i = .int .i64 q ∧ stop du s (k + 1) (s.size - (k + 1)) = stop du s q (s.size - q)) (fun i => s.size - (intOf i).toNat)
                      case atStart => exact ⟨k + 1, by omega, by go_num, rfl⟩
                      case round =>
                        obtain ⟨q, hq, rfl, hsq⟩ := hrel
                        have Hsq := Lib.hid hsq
                        clear hsq
                        by_cases hdu : q < s.size ∧ du (bt s q) = true
                        · obtain ⟨hqs, hdu⟩ := hdu
                          have hyes := stop_yes (p := du) hqs hdu
                          have Hyes := Lib.hid hyes
                          clear hyes
                          cases hd : dg (bt s q) with
                          | true =>
                            have hb := fun w => rs_dig hqs hd w
                            have hbd := dg_bounds hd
                            rw [bt_of s q hqs] at hbd
                            obtain ⟨hbd1, hbd2⟩ := hbd
                            have Hb := Lib.hid hb
                            clear hb hd hdu
                            go_wp2_with fail
                            refine (Hb.out _).mono ?_
                            rintro e w' ⟨rfl, rfl⟩
                            go_wp2_with fail
                            go_round
                            case rel => exact ⟨q + 1, by omega, by go_num, by rw [Hsq.out, Hyes.out]⟩
                            case measure => simp [intOf]; omega
                          | false =>
                            have hb := fun w => rs_big hqs hd w
                            have Hb := Lib.hid hb
                            have h95 : ((s[q].toNat : Int) == 95) = true := by
                              rw [← bt_of s q hqs]
                              simpa [du, hd] using hdu
                            clear hb hd hdu
                            go_wp2_with fail
                            refine (Hb.out _).mono ?_
                            rintro e w' ⟨v, rfl, hv, rfl⟩
                            go_wp2_with fail
                            go_round
                            case rel => exact ⟨q + 1, by omega, by go_num, by rw [Hsq.out, Hyes.out]⟩
                            case measure => simp [intOf]; omega
                        · have hend : road s a = (q == s.size) := by
                            rw [Hfin.out, Hsq.out]
                            congr 1
                            by_cases x : q < s.size
                            · exact stop_no (by cases y : du (bt s q) with | false => rfl | true => exact (hdu ⟨x, y⟩).elim)
                            · exact stop_end (by omega)
                          have Hend := Lib.hid hend
                          clear hend
                          by_cases hqs : q < s.size
                          · have hdf : dg (bt s q) = false := by cases y : dg (bt s q) with | false => rfl | true => exact (hdu ⟨hqs, by simp [du, y]⟩).elim
                            have h95 : ((s[q].toNat : Int) == 95) = false := by
                              rw [← bt_of s q hqs]
                              cases y : (bt s q == 95) with | false => rfl | true => exact (hdu ⟨hqs, by simp [du, y]⟩).elim
                            have hb := fun w => rs_big hqs hdf w
                            have Hb := Lib.hid hb
                            clear hb hdf hdu
                            go_wp2_with fail
                            refine (Hb.out _).mono ?_
                            rintro e w' ⟨v, rfl, hv, rfl⟩
                            go_wp2_with fail
                            go_ret
                            exact ⟨ret_bool (by rw [Hend.out, Bool.eq_iff_iff]; simp; omega), rfl⟩
                          · clear hdu
                            go_wp2_with fail
                            go_ret
                            exact ⟨ret_bool (by rw [Hend.out, Bool.eq_iff_iff]; simp; omega), rfl⟩
                  · have Hfin := Lib.hid (show road s a = (k == s.size) by rw [Hend.out, if_neg hp0, if_neg hk46])
                    by_cases hks : k < s.size
                    · have h46b : ((s[k].toNat : Int) == 46) = false := by rw [← bt_of s k hks]; simpa using fun h => hk46 ⟨hks, h⟩
                      clear hk46 Hend
                      rcases hcases with h1 | ⟨h1, h2, h3⟩ | ⟨h1, h2, h3⟩
                      · go_wp2_with fail
                        go_ret
                        exact ⟨ret_bool (by rw [Hfin.out, Bool.eq_iff_iff]; simp; omega), rfl⟩
                      · go_wp2_with fail
                        go_ret
                        exact ⟨ret_bool (by rw [Hfin.out, Bool.eq_iff_iff]; simp; omega), rfl⟩
                      · have hb := fun w => rs_big h1 h3 w
                        have Hb := Lib.hid hb
                        clear hb h3
                        go_wp2_with fail
                        refine (Hb.out _).mono ?_
                        rintro e w' ⟨v, rfl, hv, rfl⟩
                        go_wp2_with fail
                        go_ret
                        exact ⟨ret_bool (by rw [Hfin.out, Bool.eq_iff_iff]; simp; omega), rfl⟩
                    · clear hk46 Hend
                      have h1 : ¬ k + 1 < s.size := by omega
                      clear hcases
                      go_wp2_with fail
                      go_ret
                      exact ⟨ret_bool (by rw [Hfin.out, Bool.eq_iff_iff]; simp; omega), rfl⟩
          · clear hdu
            go_wp2_with fail
            go_loop [3, 4] (fun i n => ∃ k p : Nat, k ≤ s.size ∧ p ≤ k ∧ i = .int .i64 k ∧ n = .int .i64 p ∧ road s a = after s p k) (fun i _ => s.size + 3 - (intOf i).toNat)
            case atStart => exact ⟨k, 0, by omega, by omega, rfl, rfl, Hend.out⟩
            case round =>
              clear Hend Hst hk
              obtain ⟨k, p, hk, hp, rfl, rfl, hst⟩ := hrel
              have Hst := Lib.hid hst
              clear hst
              by_cases hgo : k + 1 < s.size ∧ bt s k = 58 ∧ dg (bt s (k + 1)) = true
              · obtain ⟨hk1, hc, hd1⟩ := hgo
                have hks : k < s.size := by omega
                have hcb : ((s[k].toNat : Int) == 58) = true := by rw [← bt_of s k hks, hc]; rfl
                have hb := fun w => rs_dig hk1 hd1 w
                have hbd := dg_bounds hd1
                rw [bt_of s (k + 1) hk1] at hbd
                obtain ⟨hbd1, hbd2⟩ := hbd
                have Hb := Lib.hid hb
                clear hb
                by_cases hk2 : k + 2 < s.size
                · cases hd2 : dg (bt s (k + 2)) with
                  | true =>
                    have hb2 := fun w => rs_dig hk2 hd2 w
                    have hbe := dg_bounds hd2
                    rw [bt_of s (k + 2) hk2] at hbe
                    obtain ⟨hbe1, hbe2⟩ := hbe
                    have Hb2 := Lib.hid hb2
                    clear hb2
                    by_cases h5 : 53 < bt s (k + 1)
                    · have hfin : road s a = false := by rw [Hst.out, after_high hk2 hc hd1 hd2 h5]
                      have Hfin := Lib.hid hfin
                      rw [bt_of s (k + 1) hk1] at h5
                      clear hfin hc hd1 hd2
                      go_wp2_with fail
                      refine (Hb.out _).mono ?_
                      rintro e w' ⟨rfl, rfl⟩
                      go_wp2_with fail
                      refine (Hb2.out _).mono ?_
                      rintro e w' ⟨rfl, rfl⟩
                      go_wp2_with fail
                      refine (Hb.out _).mono ?_
                      rintro e w' ⟨rfl, rfl⟩
                      go_wp2_with fail
                      go_ret
                      exact ⟨ret_bool Hfin.out.symm, rfl⟩
                    · have hnext : road s a = after s (p + 1) (k + 3) := by rw [Hst.out, after_two hk2 hc hd1 hd2 h5]
                      have Hnext := Lib.hid hnext
                      rw [bt_of s (k + 1) hk1] at h5
                      clear hnext hc hd1 hd2
                      go_wp2_with fail
                      refine (Hb.out _).mono ?_
                      rintro e w' ⟨rfl, rfl⟩
                      go_wp2_with fail
                      refine (Hb2.out _).mono ?_
                      rintro e w' ⟨rfl, rfl⟩
                      go_wp2_with fail
                      refine (Hb.out _).mono ?_
                      rintro e w' ⟨rfl, rfl⟩
                      go_wp2_with fail
                      go_round
                      case rel => exact ⟨k + 3, p + 1, by omega, by omega, by go_num, by go_num, Hnext.out⟩
                      case measure => simp [intOf]; omega
                  | false =>
                    have hb2 := fun w => rs_big hk2 hd2 w
                    have Hb2 := Lib.hid hb2
                    have hnext : road s a = after s (p + 1) (k + 2) := by rw [Hst.out, after_one hk1 hc hd1 (fun x => by rw [hd2] at x; simp at x)]
                    have Hnext := Lib.hid hnext
                    clear hnext hc hd1 hd2 hb2
                    go_wp2_with fail
                    refine (Hb.out _).mono ?_
                    rintro e w' ⟨rfl, rfl⟩
                    go_wp2_with fail
                    refine (Hb2.out _).mono ?_
                    rintro e w' ⟨v, rfl, hv, rfl⟩
                    go_wp2_with fail
                    go_round
                    case rel => exact ⟨k + 2, p + 1, by omega, by omega, by go_num, by go_num, Hnext.out⟩
                    case measure => simp [intOf]; omega
                · have hnext : road s a = after s (p + 1) (k + 2) := by rw [Hst.out, after_one hk1 hc hd1 (fun x => hk2 x.1)]
                  have Hnext := Lib.hid hnext
                  clear hnext hc hd1
                  go_wp2_with fail
                  refine (Hb.out _).mono ?_
                  rintro e w' ⟨rfl, rfl⟩
                  go_wp2_with fail
                  go_round
                  case rel => exact ⟨k + 2, p + 1, by omega, by omega, by go_num, by go_num, Hnext.out⟩
                  case measure => simp [intOf]; omega
              · have hend := after_end (n := p) hk hgo
                rw [← Hst.out] at hend
                have Hend := Lib.hid hend
                clear hend
                have hcases : (¬ k + 1 < s.size) ∨ (∃ h : k < s.size, k + 1 < s.size ∧ ((s[k].toNat : Int) == 58) = false) ∨ (∃ h : k + 1 < s.size, ((s[k].toNat : Int) == 58) = true ∧ dg (bt s (k + 1)) = false) := by
                  by_cases x : k + 1 < s.size
                  · by_cases y : bt s k = 58
                    · right; right
                      refine ⟨x, by rw [← bt_of s k (by omega), y]; rfl, ?_⟩
                      cases z : dg (bt s (k + 1)) with | false => rfl | true => exact (hgo ⟨x, y, z⟩).elim
                    · right; left
                      exact ⟨by omega, x, by rw [← bt_of s k (by omega)]; simpa using y⟩
                  · exact .inl x
                clear hgo
                by_cases hp0 : p = 0
                · subst hp0
                  have Hfin := Lib.hid (show road s a = false by rw [Hend.out, if_pos rfl])
                  rcases hcases with h1 | ⟨h1, h2, h3⟩ | ⟨h1, h2, h3⟩
                  · go_wp2_with fail
                    go_ret
                    exact ⟨ret_bool Hfin.out.symm, rfl⟩
                  · go_wp2_with fail
                    go_ret
                    exact ⟨ret_bool Hfin.out.symm, rfl⟩
                  · have hb := fun w => rs_big h1 h3 w
                    have Hb := Lib.hid hb
                    clear hb h3
                    have hks : k < s.size := by omega
                    go_wp2_with fail
                    refine (Hb.out _).mono ?_
                    rintro e w' ⟨v, rfl, hv, rfl⟩
                    go_wp2_with fail
                    go_ret
                    exact ⟨ret_bool Hfin.out.symm, rfl⟩
                · have hp0b : ((p : Int) == 0) = false := by simpa using hp0
                  by_cases hk46 : k < s.size ∧ bt s k = 46
                  · obtain ⟨hks, h46⟩ := hk46
                    have h46b : ((s[k].toNat : Int) == 46) = true := by rw [← bt_of s k hks, h46]; rfl
                    have Hfin := Lib.hid (show road s a = (stop du s (k + 1) (s.size - (k + 1)) == s.size) by rw [Hend.out, if_neg hp0, if_pos ⟨hks, h46⟩])
                    clear h46 Hend
                    rcases hcases with h1 | ⟨h1, h2, h3⟩ | ⟨h1, h2, h3⟩
                    · go_wp2_with fail
                      go_loop [3] (fun i => ∃ q : Nat, q ≤ s.size ∧ i = .int .i64 q ∧ stop du s (k + 1) (s.size - (k + 1)) = stop du s q (s.size - q)) (fun i => s.size - (intOf i).toNat)
                      case atStart => exact ⟨k + 1, by omega, by go_num, rfl⟩
                      case round =>
                        obtain ⟨q, hq, rfl, hsq⟩ := hrel
                        have Hsq := Lib.hid hsq
                        clear hsq
                        by_cases hdu : q < s.size ∧ du (bt s q) = true
                        · obtain ⟨hqs, hdu⟩ := hdu
                          have hyes := stop_yes (p := du) hqs hdu
                          have Hyes := Lib.hid hyes
                          clear hyes
                          cases hd : dg (bt s q) with
                          | true =>
                            have hb := fun w => rs_dig hqs hd w
                            have hbd := dg_bounds hd
                            rw [bt_of s q hqs] at hbd
                            obtain ⟨hbd1, hbd2⟩ := hbd
                            have Hb := Lib.hid hb
                            clear hb hd hdu
                            go_wp2_with fail
                            refine (Hb.out _).mono ?_
                            rintro e w' ⟨rfl, rfl⟩
                            go_wp2_with fail
                            go_round
                            case rel => exact ⟨q + 1, by omega, by go_num, by rw [Hsq.out, Hyes.out]⟩
                            case measure => simp [intOf]; omega
                          | false =>
                            have hb := fun w => rs_big hqs hd w
                            have Hb := Lib.hid hb
                            have h95 : ((s[q].toNat : Int) == 95) = true := by
                              rw [← bt_of s q hqs]
                              simpa [du, hd] using hdu
                            clear hb hd hdu
                            go_wp2_with fail
                            refine (Hb.out _).mono ?_
                            rintro e w' ⟨v, rfl, hv, rfl⟩
                            go_wp2_with fail
                            go_round
                            case rel => exact ⟨q + 1, by omega, by go_num, by rw [Hsq.out, Hyes.out]⟩
                            case measure => simp [intOf]; omega
                        · have hend : road s a = (q == s.size) := by
                            rw [Hfin.out, Hsq.out]
                            congr 1
                            by_cases x : q < s.size
                            · exact stop_no (by cases y : du (bt s q) with | false => rfl | true => exact (hdu ⟨x, y⟩).elim)
                            · exact stop_end (by omega)
                          have Hend := Lib.hid hend
                          clear hend
                          by_cases hqs : q < s.size
                          · have hdf : dg (bt s q) = false := by cases y : dg (bt s q) with | false => rfl | true => exact (hdu ⟨hqs, by simp [du, y]⟩).elim
                            have h95 : ((s[q].toNat : Int) == 95) = false := by
                              rw [← bt_of s q hqs]
                              cases y : (bt s q == 95) with | false => rfl | true => exact (hdu ⟨hqs, by simp [du, y]⟩).elim
                            have hb := fun w => rs_big hqs hdf w
                            have Hb := Lib.hid hb
                            clear hb hdf hdu
                            go_wp2_with fail
                            refine (Hb.out _).mono ?_
                            rintro e w' ⟨v, rfl, hv, rfl⟩
                            go_wp2_with fail
                            go_ret
                            exact ⟨ret_bool (by rw [Hend.out, Bool.eq_iff_iff]; simp; omega), rfl⟩
                          · clear hdu
                            go_wp2_with fail
                            go_ret
                            exact ⟨ret_bool (by rw [Hend.out, Bool.eq_iff_iff]; simp; omega), rfl⟩
                    · go_wp2_with fail
                      go_loop [3] (fun i => ∃ q : Nat, q ≤ s.size ∧ i = .int .i64 q ∧ stop du s (k + 1) (s.size - (k + 1)) = stop du s q (s.size - q)) (fun i => s.size - (intOf i).toNat)
                      case atStart => exact ⟨k + 1, by omega, by go_num, rfl⟩
                      case round =>
                        obtain ⟨q, hq, rfl, hsq⟩ := hrel
                        have Hsq := Lib.hid hsq
                        clear hsq
                        by_cases hdu : q < s.size ∧ du (bt s q) = true
                        · obtain ⟨hqs, hdu⟩ := hdu
                          have hyes := stop_yes (p := du) hqs hdu
                          have Hyes := Lib.hid hyes
                          clear hyes
                          cases hd : dg (bt s q) with
                          | true =>
                            have hb := fun w => rs_dig hqs hd w
                            have hbd := dg_bounds hd
                            rw [bt_of s q hqs] at hbd
                            obtain ⟨hbd1, hbd2⟩ := hbd
                            have Hb := Lib.hid hb
                            clear hb hd hdu
                            go_wp2_with fail
                            refine (Hb.out _).mono ?_
                            rintro e w' ⟨rfl, rfl⟩
                            go_wp2_with fail
                            go_round
                            case rel => exact ⟨q + 1, by omega, by go_num, by rw [Hsq.out, Hyes.out]⟩
                            case measure => simp [intOf]; omega
                          | false =>
                            have hb := fun w => rs_big hqs hd w
                            have Hb := Lib.hid hb
                            have h95 : ((s[q].toNat : Int) == 95) = true := by
                              rw [← bt_of s q hqs]
                              simpa [du, hd] using hdu
                            clear hb hd hdu
                            go_wp2_with fail
                            refine (Hb.out _).mono ?_
                            rintro e w' ⟨v, rfl, hv, rfl⟩
                            go_wp2_with fail
                            go_round
                            case rel => exact ⟨q + 1, by omega, by go_num, by rw [Hsq.out, Hyes.out]⟩
                            case measure => simp [intOf]; omega
                        · have hend : road s a = (q == s.size) := by
                            rw [Hfin.out, Hsq.out]
                            congr 1
                            by_cases x : q < s.size
                            · exact stop_no (by cases y : du (bt s q) with | false => rfl | true => exact (hdu ⟨x, y⟩).elim)
                            · exact stop_end (by omega)
                          have Hend := Lib.hid hend
                          clear hend
                          by_cases hqs : q < s.size
                          · have hdf : dg (bt s q) = false := by cases y : dg (bt s q) with | false => rfl | true => exact (hdu ⟨hqs, by simp [du, y]⟩).elim
                            have h95 : ((s[q].toNat : Int) == 95) = false := by
                              rw [← bt_of s q hqs]
                              cases y : (bt s q == 95) with | false => rfl | true => exact (hdu ⟨hqs, by simp [du, y]⟩).elim
                            have hb := fun w => rs_big hqs hdf w
                            have Hb := Lib.hid hb
                            clear hb hdf hdu
                            go_wp2_with fail
                            refine (Hb.out _).mono ?_
                            rintro e w' ⟨v, rfl, hv, rfl⟩
                            go_wp2_with fail
                            go_ret
                            exact ⟨ret_bool (by rw [Hend.out, Bool.eq_iff_iff]; simp; omega), rfl⟩
                          · clear hdu
                            go_wp2_with fail
                            go_ret
                            exact ⟨ret_bool (by rw [Hend.out, Bool.eq_iff_iff]; simp; omega), rfl⟩
                    · have hb := fun w => rs_big h1 h3 w
                      have Hb := Lib.hid hb
                      clear hb h3
                      go_wp2_with fail
                      refine (Hb.out _).mono ?_
                      rintro e w' ⟨v, rfl, hv, rfl⟩
                      go_wp2_with fail
                      go_loop [3] (fun i => ∃ q : Nat, q ≤ s.size ∧ i = .int .i64 q ∧ stop du s (k + 1) (s.size - (k + 1)) = stop du s q (s.size - q)) (fun i => s.size - (intOf i).toNat)
                      case atStart => exact ⟨k + 1, by omega, by go_num, rfl⟩
                      case round =>
                        obtain ⟨q, hq, rfl, hsq⟩ := hrel
                        have Hsq := Lib.hid hsq
                        clear hsq
                        by_cases hdu : q < s.size ∧ du (bt s q) = true
                        · obtain ⟨hqs, hdu⟩ := hdu
                          have hyes := stop_yes (p := du) hqs hdu
                          have Hyes := Lib.hid hyes
                          clear hyes
                          cases hd : dg (bt s q) with
                          | true =>
                            have hb := fun w => rs_dig hqs hd w
                            have hbd := dg_bounds hd
                            rw [bt_of s q hqs] at hbd
                            obtain ⟨hbd1, hbd2⟩ := hbd
                            have Hb := Lib.hid hb
                            clear hb hd hdu
                            go_wp2_with fail
                            refine (Hb.out _).mono ?_
                            rintro e w' ⟨rfl, rfl⟩
                            go_wp2_with fail
                            go_round
                            case rel => exact ⟨q + 1, by omega, by go_num, by rw [Hsq.out, Hyes.out]⟩
                            case measure => simp [intOf]; omega
                          | false =>
                            have hb := fun w => rs_big hqs hd w
                            have Hb := Lib.hid hb
                            have h95 : ((s[q].toNat : Int) == 95) = true := by
                              rw [← bt_of s q hqs]
                              simpa [du, hd] using hdu
                            clear hb hd hdu
                            go_wp2_with fail
                            refine (Hb.out _).mono ?_
                            rintro e w' ⟨v, rfl, hv, rfl⟩
                            go_wp2_with fail
                            go_round
                            case rel => exact ⟨q + 1, by omega, by go_num, by rw [Hsq.out, Hyes.out]⟩
                            case measure => simp [intOf]; omega
                        · have hend : road s a = (q == s.size) := by
                            rw [Hfin.out, Hsq.out]
                            congr 1
                            by_cases x : q < s.size
                            · exact stop_no (by cases y : du (bt s q) with | false => rfl | true => exact (hdu ⟨x, y⟩).elim)
                            · exact stop_end (by omega)
                          have Hend := Lib.hid hend
                          clear hend
                          by_cases hqs : q < s.size
                          · have hdf : dg (bt s q) = false := by cases y : dg (bt s q) with | false => rfl | true => exact (hdu ⟨hqs, by simp [du, y]⟩).elim
                            have h95 : ((s[q].toNat : Int) == 95) = false := by
                              rw [← bt_of s q hqs]
                              cases y : (bt s q == 95) with | false => rfl | true => exact (hdu ⟨hqs, by simp [du, y]⟩).elim
                            have hb := fun w => rs_big hqs hdf w
                            have Hb := Lib.hid hb
                            clear hb hdf hdu
                            go_wp2_with fail
                            refine (Hb.out _).mono ?_
                            rintro e w' ⟨v, rfl, hv, rfl⟩
                            go_wp2_with fail
                            go_ret
                            exact ⟨ret_bool (by rw [Hend.out, Bool.eq_iff_iff]; simp; omega), rfl⟩
                          · clear hdu
                            go_wp2_with fail
                            go_ret
                            exact ⟨ret_bool (by rw [Hend.out, Bool.eq_iff_iff]; simp; omega), rfl⟩
                  · have Hfin := Lib.hid (show road s a = (k == s.size) by rw [Hend.out, if_neg hp0, if_neg hk46])
                    by_cases hks : k < s.size
                    · have h46b : ((s[k].toNat : Int) == 46) = false := by rw [← bt_of s k hks]; simpa using fun h => hk46 ⟨hks, h⟩
                      clear hk46 Hend
                      rcases hcases with h1 | ⟨h1, h2, h3⟩ | ⟨h1, h2, h3⟩
                      · go_wp2_with fail
                        go_ret
                        exact ⟨ret_bool (by rw [Hfin.out, Bool.eq_iff_iff]; simp; omega), rfl⟩
                      · go_wp2_with fail
                        go_ret
                        exact ⟨ret_bool (by rw [Hfin.out, Bool.eq_iff_iff]; simp; omega), rfl⟩
                      · have hb := fun w => rs_big h1 h3 w
                        have Hb := Lib.hid hb
                        clear hb h3
                        go_wp2_with fail
                        refine (Hb.out _).mono ?_
                        rintro e w' ⟨v, rfl, hv, rfl⟩
                        go_wp2_with fail
                        go_ret
                        exact ⟨ret_bool (by rw [Hfin.out, Bool.eq_iff_iff]; simp; omega), rfl⟩
                    · clear hk46 Hend
                      have h1 : ¬ k + 1 < s.size := by omega
                      clear hcases
                      go_wp2_with fail
                      go_ret
                      exact ⟨ret_bool (by rw [Hfin.out, Bool.eq_iff_iff]; simp; omega), rfl⟩
  · have hr : road s a = false := by unfold road; rw [if_neg (fun h => ha h.1)]
    have hne : ((a : Int) == (s.size : Int)) = true := by simp; omega
    rw [hr]
    clear hr
    go_enter Try.func19, Try.ntmps19
    go_wp2_with fail
    refine (Hsg.out _).mono ?_
    rintro e w' ⟨rfl, rfl⟩
    go_wp2_with fail
    go_ret
    exact ⟨rfl, rfl⟩
set_option maxHeartbeats 400000 in
theorem walk (s : ByteArray) (w : World) : Calls Try.prog 7 #[.string s] w fun e w' => e = .returned (.bool true) ∧ Below w.heap.size w w' := by
  by_cases h : s.size ≤ 2147483647
  · by_cases h1 : s.size ≤ 1000
    · go_enter Try.func7, Try.ntmps7
      go_wp2_with fail
      refine (impl_any s _ h1).mono ?_
      rintro e w' ⟨rfl, rfl⟩
      go_wp2_with fail
      refine (sixties_any s _ h1).mono ?_
      rintro e w' ⟨rfl, rfl⟩
      go_wp2_with fail
      go_ret
      exact ⟨by simp, Below.refl _ _⟩
    · go_enter Try.func7, Try.ntmps7
      go_wp2_with fail
      go_ret
      exact ⟨rfl, Below.refl _ _⟩
  · go_enter Try.func7, Try.ntmps7
    go_wp2_with fail
    go_ret
    exact ⟨rfl, Below.refl _ _⟩
end Go.Proofs.YtacmdmbdfkjhmaaR.Sixty
