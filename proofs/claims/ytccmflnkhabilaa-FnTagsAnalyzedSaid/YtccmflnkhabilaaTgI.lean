/- FnTagsAnalyzed: the law's walk. -/
import Derived.Test.YtccmflnkhabilaaTgH
namespace Go.Proofs.Ytccmflnkhabilaa.Tg
open Go.RowKit Go.Proofs.Ytccmflnkhabilaa.Dir
set_option linter.unusedVariables false
set_option linter.unusedSimpArgs false
/-- The handle, and the rest, of the first directive from m on whose prefix fits. -/
def Best (n : Nat) (H P : Nat → ByteArray) (ts : List Int) (m : Nat) (want rest : ByteArray) : Prop :=
  (∃ k, m ≤ k ∧ k < n ∧ (∀ j, m ≤ j → j < k → fits ts (byt (P j)) = false) ∧ fits ts (byt (P k)) = true ∧ want = H k ∧ rest = strOfNums (ts.drop (P k).size)) ∨
  ((∀ j, m ≤ j → j < n → fits ts (byt (P j)) = false) ∧ want = ⟨#[]⟩ ∧ rest = strOfNums ts)
theorem Best.keep {n : Nat} {H P : Nat → ByteArray} {ts : List Int} {m : Nat} {want rest : ByteArray} (h : Best n H P ts (m + 1) want rest) (hf : fits ts (byt (P m)) = false) : Best n H P ts m want rest := by
  have hx : ∀ j, m ≤ j → m + 1 ≤ j ∨ j = m := fun j hj => by omega
  rcases h with ⟨k, h1, h2, h3, h4⟩ | ⟨h1, h2⟩
  · refine .inl ⟨k, by omega, h2, fun j hj hk => ?_, h4⟩
    rcases hx j hj with h | rfl
    · exact h3 j h hk
    · exact hf
  · refine .inr ⟨fun j hj hk => ?_, h2⟩
    rcases hx j hj with h | rfl
    · exact h1 j h hk
    · exact hf
theorem Best.take {n : Nat} {H P : Nat → ByteArray} {ts : List Int} {m : Nat} (hm : m < n) (hf : fits ts (byt (P m)) = true) : Best n H P ts m (H m) (strOfNums (ts.drop (P m).size)) :=
  .inl ⟨m, Nat.le_refl _, hm, fun j h1 h2 => by omega, hf, rfl, rfl⟩
theorem same_comm (a b : ByteArray) : same a b = same b a := by unfold same; exact BEq.comm
/-- What is told is what is wanted. -/
theorem best_given {n : Nat} {H P : Nat → ByteArray} {ts xs ys : List Int} {want rest : ByteArray} (h : Best n H P ts 0 want rest)
    (hg : (∃ k, k < n ∧ (∀ j, j < k → fits ts (byt (P j)) = false) ∧ fits ts (byt (P k)) = true ∧ xs = byt (H k) ∧ ys = ts.drop (P k).size) ∨ ((∀ j, j < n → fits ts (byt (P j)) = false) ∧ xs = [] ∧ ys = ts)) :
    strOfNums xs = want ∧ strOfNums ys = rest := by
  rcases h with ⟨k, _, hk, hno, hf, rfl, rfl⟩ | ⟨hno, rfl, rfl⟩
  · rcases hg with ⟨k', hk', hno', hf', rfl, rfl⟩ | ⟨hno', _⟩
    · have : k = k' := by
        rcases Nat.lt_trichotomy k k' with h | h | h
        · have := hno' k h; rw [hf] at this; cases this
        · exact h
        · have := hno k' (Nat.zero_le _) h; rw [hf'] at this; cases this
      subst this
      exact ⟨byt_str _, rfl⟩
    · have := hno' k hk; rw [hf] at this; cases this
  · rcases hg with ⟨k', hk', hno', hf', rfl, rfl⟩ | ⟨hno', rfl, rfl⟩
    · have := hno k' (Nat.zero_le _) hk'; rw [hf'] at this; cases this
    · exact ⟨rfl, rfl⟩
theorem dre {w w0 : World} {d : Nat} (h : w = w0.drewN d) (n : Nat) : ∃ d', w.drewN n = w0.drewN d' := ⟨d + n, by rw [h]; simp [World.drewN, Nat.add_assoc]⟩
theorem Strs.drewN {w : World} {A : Option Addr} {n : Nat} {S : Nat → ByteArray} (h : Strs w A n S) (k : Nat) : Strs (w.drewN k) A n S := h
theorem Strs.few {w : World} {A : Option Addr} {n m : Nat} {S : Nat → ByteArray} (h : Strs w A n S) (hm : m ≤ n) : Strs w A m S := by
  rcases h with h | ⟨b, o, e, h1, h2⟩
  · exact .inl (by omega)
  · exact .inr ⟨b, o, e, h1, fun i hi => h2 i (by omega)⟩
/-- All that must be so of a directive. -/
def Well (H P : Nat → ByteArray) (j : Nat) : Prop := 0 < (P j).size ∧ ∀ l, l < j → same (H l) (H j) = false
set_option maxHeartbeats 8000000 in
set_option maxRecDepth 100000 in
theorem law_in (tb to t tc nh ch np cp : Nat) (AH AP : Option Addr) (ts : List Int) (H P : Nat → ByteArray) (W : World) (ht0 : 0 < t) (ht1 : t ≤ 1024) (htc : t ≤ tc) (hl : Lies W (some ⟨tb, to, none⟩) t ts) (hH : Strs W AH nh H) (hP : Strs W AP np P) (hnh : nh ≤ 2147483647) (hnp : np ≤ 2147483647) (hch : nh ≤ ch) (hcp : np ≤ cp)
    (hzh : ∀ i, (H i).size ≤ 9223372036854775807) (hzp : ∀ i, (P i).size ≤ 9223372036854775807) :
    Calls Try.prog 4 #[.slice (some ⟨tb, to, none⟩) t tc, .slice AH nh ch, .slice AP np cp] W fun e w' => e = .returned (.bool true) ∧ Below W.heap.size W w' := by
  have HL := Lib.hid hl
  have HH := Lib.hid hH
  have HPP := Lib.hid hP
  have HZH := Lib.hid hzh
  have HZP := Lib.hid hzp
  have hfh := zzfits_any AH nh ch H W (by omega) hH hzh
  have hfp := zzfits_any AP np cp P W (by omega) hP hzp
  have HFH := Lib.hid hfh
  have HFP := Lib.hid hfp
  have hcv : ∀ N, (convert 22 9 (.slice (some ⟨tb, to, none⟩) t tc)).run Try.prog (W.drewN N) = .ok (.string (strOfNums ts)) (W.drewN N) := fun N => Lies.conv (w := W.drewN N) hl tc
  have hcl : ∀ k c N, k ≤ t → (convert 22 9 (.slice (some ⟨tb, to, none⟩) k c)).run Try.prog (W.drewN N) = .ok (.string (strOfNums (ts.take k))) (W.drewN N) := fun k c N hk => Lies.conv (w := W.drewN N) (hl.take k hk) c
  have hcr : ∀ k c N, k ≤ t → (convert 22 9 (.slice (some ⟨tb, to + k, none⟩) (t - k) c)).run Try.prog (W.drewN N) = .ok (.string (strOfNums (ts.drop k))) (W.drewN N) := fun k c N hk => Lies.conv (w := W.drewN N) (hl.drop k hk) c
  have HCV := Lib.hid hcv
  have HCL := Lib.hid hcl
  have HCR := Lib.hid hcr
  clear hcv hcl hcr
  clear hl hH hP hzh hzp hfh hfp
  have d1 : decide (2147483647 < (t : Int)) = false := by simp; omega
  have d2 : ((t : Int) == 0) = false := by simp; omega
  have d3 : decide (1024 < (t : Int)) = false := by simp; omega
  go_enter Try.func4, Try.ntmps4
  try simp only [List.append]
  go_wp2_with fail
  refine HFH.out.mono ?_
  rintro e w' ⟨b1, rfl, rfl, hb1⟩
  cases b1 with
  | false =>
    clear hb1
    go_wp2_with fail
    go_ret
    exact ⟨rfl, Below.refl _ _⟩
  | true =>
    have HB1 := Lib.hid (hb1 rfl)
    clear hb1
    go_wp2_with fail
    refine HFP.out.mono ?_
    rintro e w' ⟨b2, rfl, rfl, hb2⟩
    cases b2 with
    | false =>
      clear hb2
      go_wp2_with fail
      go_ret
      exact ⟨rfl, Below.refl _ _⟩
    | true =>
      have HB2 := Lib.hid (hb2 rfl)
      clear hb2
      go_wp2_with fail
      case' inl =>
        obtain ⟨n, hn⟩ : ∃ n : Nat, n = 8 := ⟨_, rfl⟩
        have hx : n ≤ nh ∧ n ≤ np ∧ n ≤ 8 := by rename_i h; split at h <;> omega
        rw [show Value.int IntKind.i64 8 = Value.int IntKind.i64 (n : Int) by rw [hn]; rfl]
      case' inr.inl =>
        obtain ⟨n, hn⟩ : ∃ n : Nat, n = np := ⟨_, rfl⟩
        have hx : n ≤ nh ∧ n ≤ np ∧ n ≤ 8 := by rename_i h2; split at h2 <;> omega
        rw [show Value.int IntKind.i64 (np : Int) = Value.int IntKind.i64 (n : Int) by rw [hn]]
      case' inr.inr =>
        obtain ⟨n, hn⟩ : ∃ n : Nat, n = nh := ⟨_, rfl⟩
        have hx : n ≤ nh ∧ n ≤ np ∧ n ≤ 8 := by rename_i h2; split at h2 <;> omega
        rw [show Value.int IntKind.i64 (nh : Int) = Value.int IntKind.i64 (n : Int) by rw [hn]]
      all_goals
        obtain ⟨n1, n2, n3⟩ := hx
        have m1 : (0 : Int) ≤ (n : Int) := by omega
        have m2 : (n : Int) ≤ (ch : Int) := by omega
        have m3 : (n : Int) ≤ (cp : Int) := by omega
        clear hn
        try clear h
        go_quiet (fail)
        go_wp2_with fail
        have hcv := HCV.out
        go_quiet (fail)
        clear hcv
        go_wp2_with fail
        have htl : ts.length = t := HL.out.1
        have HTL := Lib.hid htl
        clear htl
        go_loopw [8, 9, 10, 11, 12] (fun s8 s9 i _ _ wr => ∃ m : Nat, m ≤ n ∧ i = .int .i64 ((m : Int) - 1) ∧ (∀ j, m ≤ j → j < n → Well H P j) ∧ (∃ want rest, s8 = .string want ∧ s9 = .string rest ∧ Best n H P ts m want rest) ∧ ∃ d, wr = w'.drewN d) (fun _ _ i _ _ _ => (intOf i + 1).toNat)
        case atStart => exact ⟨n, Nat.le_refl _, rfl, fun j h1 h2 => by omega, ⟨_, _, rfl, rfl, .inr ⟨fun j h1 h2 => by omega, rfl, rfl⟩⟩, _, rfl⟩
        obtain ⟨m, hm, hi, hwell, ⟨want, rest, rfl, rfl, hbest⟩, d, hd⟩ := hrel
        have HW := Lib.hid hwell
        have HBE := Lib.hid hbest
        clear hwell hbest
        obtain ⟨wo, rfl⟩ : ∃ wo : World, wo = wr := ⟨_, rfl⟩
        have HD := Lib.hid hd
        clear hd
        cases m with
        | zero =>
          have hi' := hi
          simp only [Int.natCast_zero, Int.zero_sub] at hi'
          subst hi'
          clear hi
          go_wp2_with fail
          have himp := impl_tag tb to tc n n n AH AP H P ts wo n3 (by rw [HTL.out]; exact ht0) (by rw [HTL.out]; omega) (by rw [HTL.out, HD.out]; exact HL.out) (by rw [HD.out]; exact (HH.out.few n1).drewN d) (by rw [HD.out]; exact (HPP.out.few n2).drewN d) (fun i hi => HB1.out.2 i (by omega)) (fun i hi => HB2.out.2 i (by omega))
            (fun i j hj hi => by rw [same_comm]; exact (HW.out i (Nat.zero_le _) hi).2 j hj)
          rw [HTL.out] at himp
          refine himp.mono ?_
          rintro e w2 ⟨A, c, A', c', xs, ys, rfl, lx, ly, hb, hcase⟩
          have hbg := best_given HBE.out hcase
          have LX := Lib.hid lx
          have LY := Lib.hid ly
          have HBG := Lib.hid hbg
          have HBB := Lib.hid hb
          clear himp lx ly hcase hbg hb
          have ha : Below w2.heap.size w2 (w2.alloc (Obj.cells #[Value.int IntKind.i64 0, Value.int IntKind.i64 0, Value.int IntKind.i64 0, Value.int IntKind.i64 0, Value.int IntKind.i64 0, Value.int IntKind.i64 0, Value.int IntKind.i64 0, Value.int IntKind.i64 0, Value.int IntKind.i64 0] 27)) := (Below.refl _ _).alloc (Nat.le_refl _) _
          have cvx : (convert 22 9 (.slice A xs.length c)).run Try.prog (w2.alloc (Obj.cells #[Value.int IntKind.i64 0, Value.int IntKind.i64 0, Value.int IntKind.i64 0, Value.int IntKind.i64 0, Value.int IntKind.i64 0, Value.int IntKind.i64 0, Value.int IntKind.i64 0, Value.int IntKind.i64 0, Value.int IntKind.i64 0] 27)) = .ok (.string want) (w2.alloc (Obj.cells #[Value.int IntKind.i64 0, Value.int IntKind.i64 0, Value.int IntKind.i64 0, Value.int IntKind.i64 0, Value.int IntKind.i64 0, Value.int IntKind.i64 0, Value.int IntKind.i64 0, Value.int IntKind.i64 0, Value.int IntKind.i64 0] 27)) := by
            rw [← HBG.out.1]; exact Lies.conv (LX.out.below ha) c
          have cvy : (convert 22 9 (.slice A' ys.length c')).run Try.prog (w2.alloc (Obj.cells #[Value.int IntKind.i64 0, Value.int IntKind.i64 0, Value.int IntKind.i64 0, Value.int IntKind.i64 0, Value.int IntKind.i64 0, Value.int IntKind.i64 0, Value.int IntKind.i64 0, Value.int IntKind.i64 0, Value.int IntKind.i64 0] 27)) = .ok (.string rest) (w2.alloc (Obj.cells #[Value.int IntKind.i64 0, Value.int IntKind.i64 0, Value.int IntKind.i64 0, Value.int IntKind.i64 0, Value.int IntKind.i64 0, Value.int IntKind.i64 0, Value.int IntKind.i64 0, Value.int IntKind.i64 0, Value.int IntKind.i64 0] 27)) := by
            rw [← HBG.out.2]; exact Lies.conv (LY.out.below ha) c'
          have hfin : Hid (Below w'.heap.size w' (w2.alloc (Obj.cells #[Value.int IntKind.i64 0, Value.int IntKind.i64 0, Value.int IntKind.i64 0, Value.int IntKind.i64 0, Value.int IntKind.i64 0, Value.int IntKind.i64 0, Value.int IntKind.i64 0, Value.int IntKind.i64 0, Value.int IntKind.i64 0] 27))) := by
            have := HBB.out
            rw [HD.out] at this
            exact Lib.hid ((Below.mk this.os this.tape this.output this.size this.block : Below w'.heap.size w' w2).alloc this.size _)
          clear ha
          simp only [flt]
          go_wp2_with fail
          go_ret
          exact ⟨rfl, hfin.out⟩
        | succ q =>
          have hi' : u10 = .int .i64 (q : Int) := by rw [hi]; congr 1; omega
          subst hi'
          clear hi
          have hqn : q < n := by omega
          rcases HH.out with h | ⟨hb, ho, rfl, hlt, hcell⟩
          · omega
          rcases HPP.out with h | ⟨pb, po, rfl, plt, pcell⟩
          · omega
          have hq0 : (0 : Int) ≤ (q : Int) := by omega
          have hqi : (q : Int) < (n : Int) := by omega
          have cpq : wo.cell? ⟨pb, po + q, none⟩ = some (.string (P q)) := by rw [HD.out]; exact pcell q (by omega)
          have HPC := Lib.hid pcell
          have HHC := Lib.hid hcell
          clear pcell hcell
          by_cases hz0 : (P q).size = 0
          · have b0 : (((P q).size : Int) == 0) = true := by rw [hz0]; rfl
            clear hz0
            go_wp2_with fail
            go_ret
            refine ⟨rfl, ?_⟩
            rw [HD.out]
            exact ⟨rfl, rfl, rfl, Nat.le_refl _, fun _ _ => rfl⟩
          have b0 : (((P q).size : Int) == 0) = false := by rw [beq_eq_false_iff_ne]; omega
          go_wp2_with fail
          go_loopw [12] (fun j wr => ∃ l : Nat, l ≤ q ∧ j = .int .i64 l ∧ (∀ x, x < l → same (H x) (H q) = false) ∧ ∃ d', wr = w'.drewN d') (fun j _ => q - (intOf j).toNat)
          case atStart => exact ⟨0, Nat.zero_le _, rfl, fun x hx => by omega, d, HD.out⟩
          obtain ⟨l, hl, rfl, hall, d2, hd2⟩ := hrel
          have HALL := Lib.hid hall
          have HD2 := Lib.hid hd2
          clear hall hd2
          by_cases hlq : l < q
          · have cl : wr.cell? ⟨hb, ho + l, none⟩ = some (.string (H l)) := by rw [HD2.out]; exact HHC.out l (by omega)
            have cq : wr.cell? ⟨hb, ho + q, none⟩ = some (.string (H q)) := by rw [HD2.out]; exact HHC.out q (by omega)
            have l0 : (0 : Int) ≤ (l : Int) := by omega
            have l1 : (l : Int) < (n : Int) := by omega
            cases he : same (H l) (H q) with
            | true =>
              have he' : ((H l).toList == (H q).toList) = true := he
              clear he
              go_wp2_with fail
              go_quiet (fail)
              go_wp2_with fail
              go_ret
              refine ⟨rfl, ?_⟩
              rw [HD2.out]
              exact ⟨rfl, rfl, rfl, Nat.le_refl _, fun _ _ => rfl⟩
            | false =>
              have he' : ((H l).toList == (H q).toList) = false := he
              have HE := Lib.hid he
              clear he
              go_wp2_with fail
              go_quiet (fail)
              go_wp2_with fail
              go_roundw
              case rel => exact ⟨l + 1, by omega, by go_num, fun x hx => by (by_cases e : x = l; (subst e; exact HE.out); (exact HALL.out x (by omega))), dre HD2.out _⟩
              case measure => simp [intOf] <;> omega
          · obtain rfl : l = q := by omega
            have hwell : Hid (∀ j, l ≤ j → j < n → Well H P j) := Lib.hid (fun j h1 h2 => by
              by_cases e : j = l
              · subst e; exact ⟨by omega, HALL.out⟩
              · exact HW.out j (by omega) h2)
            have lr : Lies wr (some ⟨tb, to, none⟩) t ts := by rw [HD2.out]; exact HL.out
            have ch' : wr.cell? ⟨hb, ho + l, none⟩ = some (.string (H l)) := by rw [HD2.out]; exact HHC.out l (by omega)
            have cp' : wr.cell? ⟨pb, po + l, none⟩ = some (.string (P l)) := by rw [HD2.out]; exact HPC.out l (by omega)
            have hfit : fits ts (byt (P l)) = (decide ((P l).size ≤ t) && same (strOfNums (ts.take (P l).size)) (P l)) := by unfold fits; rw [byt_len, byt_str, HTL.out]
            have hps : (P l).size ≤ 2147483647 := HB2.out.2 l (by omega)
            by_cases hk : (P l).size ≤ t
            · have hkd : decide (((P l).size : Int) ≤ (t : Int)) = true := by simp; omega
              have hkt : ((P l).size : Int) ≤ (t : Int) := by omega
              have hkc : (t : Int) ≤ (tc : Int) := by omega
              have hk0 : (0 : Int) ≤ ((P l).size : Int) := by omega
              have cvl : ∀ N, (convert 22 9 (.slice (some ⟨tb, to, none⟩) (P l).size tc)).run Try.prog (wr.drewN N) = .ok (.string (strOfNums (ts.take (P l).size))) (wr.drewN N) := fun N => Lies.conv (w := wr.drewN N) (lr.take _ hk) tc
              have cvr : ∀ N, (convert 22 9 (.slice (some ⟨tb, to + (P l).size, none⟩) (t - (P l).size) (tc - (P l).size))).run Try.prog (wr.drewN N) = .ok (.string (strOfNums (ts.drop (P l).size))) (wr.drewN N) := fun N => Lies.conv (w := wr.drewN N) (lr.drop _ hk) _
              have CVL := Lib.hid cvl
              have CVR := Lib.hid cvr
              clear cvl cvr
              rw [show decide ((P l).size ≤ t) = true by simpa using hk, Bool.true_and] at hfit
              cases hs : same (strOfNums (ts.take (P l).size)) (P l) with
              | false =>
                have hs' : ((strOfNums (ts.take (P l).size)).toList == (P l).toList) = false := hs
                rw [hs] at hfit
                have HF := Lib.hid hfit
                clear hs hfit lr
                go_wp2_with fail
                have cvl := CVL.out
                go_quiet (fail)
                clear cvl
                go_wp2_with fail
                go_roundw
                case rel => exact ⟨l, by omega, rfl, hwell.out, ⟨_, _, rfl, rfl, HBE.out.keep HF.out⟩, dre HD2.out _⟩
                case measure => simp [intOf] <;> omega
              | true =>
                have hs' : ((strOfNums (ts.take (P l).size)).toList == (P l).toList) = true := hs
                rw [hs] at hfit
                have HF := Lib.hid hfit
                clear hs hfit
                by_cases hcc : tc = (P l).size
                · have ht : t = (P l).size := by omega
                  have hdr : ts.drop (P l).size = [] := by rw [List.drop_eq_nil_iff, HTL.out]; omega
                  have cvz : ∀ N, (convert 22 9 (.slice (some ⟨tb, to, none⟩) 0 0)).run Try.prog (wr.drewN N) = .ok (.string (strOfNums (ts.drop (P l).size))) (wr.drewN N) := fun N => by rw [hdr]; exact Lies.conv (w := wr.drewN N) (A := some ⟨tb, to, none⟩) (n := 0) (xs := []) ⟨rfl, fun h => by omega⟩ 0
                  have CVZ := Lib.hid cvz
                  have HT2 := Lib.hid ht
                  have HCC := Lib.hid hcc
                  clear lr ht hdr cvz hcc
                  go_wp2_with fail
                  have cvl := CVL.out
                  go_quiet (fail)
                  clear cvl
                  go_wp2_with fail
                  have cvz := CVZ.out
                  have ht := HT2.out
                  have hcc := HCC.out
                  go_quiet (fail)
                  clear cvz
                  go_wp2_with fail
                  go_roundw
                  case rel => exact ⟨l, by omega, rfl, hwell.out, ⟨_, _, rfl, rfl, Best.take hqn HF.out⟩, dre HD2.out _⟩
                  case measure => simp [intOf] <;> omega
                · clear lr
                  go_wp2_with fail
                  have cvl := CVL.out
                  go_quiet (fail)
                  clear cvl
                  go_wp2_with fail
                  have cvr := CVR.out
                  go_quiet (fail)
                  clear cvr
                  go_wp2_with fail
                  go_roundw
                  case rel => exact ⟨l, by omega, rfl, hwell.out, ⟨_, _, rfl, rfl, Best.take hqn HF.out⟩, dre HD2.out _⟩
                  case measure => simp [intOf] <;> omega
            · have hkd : decide (((P l).size : Int) ≤ (t : Int)) = false := by simp; omega
              rw [show decide ((P l).size ≤ t) = false by simpa using hk, Bool.false_and] at hfit
              have HF := Lib.hid hfit
              clear hfit lr
              go_wp2_with fail
              go_quiet (fail)
              go_wp2_with fail
              go_roundw
              case rel => exact ⟨l, by omega, rfl, hwell.out, ⟨_, _, rfl, rfl, HBE.out.keep HF.out⟩, dre HD2.out _⟩
              case measure => simp [intOf] <;> omega
set_option maxHeartbeats 2000000 in
theorem law_off (A : Option Addr) (t tc nh ch np cp : Nat) (AH AP : Option Addr) (H P : Nat → ByteArray) (W : World) (ht : t = 0 ∨ 1024 < t) (htm : t ≤ 9223372036854775807) (hH : Strs W AH nh H) (hP : Strs W AP np P) (hnh : nh ≤ 9223372036854775807) (hnp : np ≤ 9223372036854775807)
    (hzh : ∀ i, (H i).size ≤ 9223372036854775807) (hzp : ∀ i, (P i).size ≤ 9223372036854775807) :
    Calls Try.prog 4 #[.slice A t tc, .slice AH nh ch, .slice AP np cp] W fun e w' => e = .returned (.bool true) ∧ Below W.heap.size W w' := by
  have hfh := zzfits_any AH nh ch H W hnh hH hzh
  have hfp := zzfits_any AP np cp P W hnp hP hzp
  have HFH := Lib.hid hfh
  have HFP := Lib.hid hfp
  clear hH hP hzh hzp hfh hfp
  by_cases h1 : 2147483647 < t
  · have d1 : decide (2147483647 < (t : Int)) = true := by simp; omega
    clear ht
    go_enter Try.func4, Try.ntmps4
    try simp only [List.append]
    go_wp2_with fail
    go_ret
    exact ⟨rfl, Below.refl _ _⟩
  have d1 : decide (2147483647 < (t : Int)) = false := by simp; omega
  rcases ht with rfl | ht
  all_goals
    try (have d2 : ((t : Int) == 0) = false := by simp; omega)
    try (have d3 : decide (1024 < (t : Int)) = true := by simp; omega)
    try clear ht
    go_enter Try.func4, Try.ntmps4
    try simp only [List.append]
    go_wp2_with fail
    refine HFH.out.mono ?_
    rintro e w' ⟨b1, rfl, rfl, hb1⟩
    cases b1 with
    | false =>
      clear hb1
      go_wp2_with fail
      go_ret
      exact ⟨rfl, Below.refl _ _⟩
    | true =>
      clear hb1
      go_wp2_with fail
      refine HFP.out.mono ?_
      rintro e w' ⟨b2, rfl, rfl, hb2⟩
      clear hb2
      cases b2 with
      | false =>
        go_wp2_with fail
        go_ret
        exact ⟨rfl, Below.refl _ _⟩
      | true =>
        go_wp2_with fail
        all_goals go_ret
        all_goals exact ⟨rfl, Below.refl _ _⟩
set_option maxHeartbeats 2000000 in
theorem law_wide (A : Option Addr) (t tc nh ch np cp : Nat) (AH AP : Option Addr) (H P : Nat → ByteArray) (W : World) (htm : t ≤ 1024) (hH : Strs W AH nh H) (hP : Strs W AP np P) (hnh : nh ≤ 9223372036854775807) (hnp : np ≤ 9223372036854775807)
    (hzh : ∀ i, (H i).size ≤ 9223372036854775807) (hzp : ∀ i, (P i).size ≤ 9223372036854775807) (hbig : 2147483647 < nh ∨ 2147483647 < np) :
    Calls Try.prog 4 #[.slice A t tc, .slice AH nh ch, .slice AP np cp] W fun e w' => e = .returned (.bool true) ∧ Below W.heap.size W w' := by
  have hfh := zzfits_any AH nh ch H W hnh hH hzh
  have hfp := zzfits_any AP np cp P W hnp hP hzp
  have HFH := Lib.hid hfh
  have HFP := Lib.hid hfp
  clear hH hP hzh hzp hfh hfp
  have d1 : decide (2147483647 < (t : Int)) = false := by simp; omega
  go_enter Try.func4, Try.ntmps4
  try simp only [List.append]
  go_wp2_with fail
  refine HFH.out.mono ?_
  rintro e w' ⟨b1, rfl, rfl, hb1⟩
  cases b1 with
  | false =>
    clear hb1
    go_wp2_with fail
    go_ret
    exact ⟨rfl, Below.refl _ _⟩
  | true =>
    have hb1 := (hb1 rfl).1
    go_wp2_with fail
    refine HFP.out.mono ?_
    rintro e w' ⟨b2, rfl, rfl, hb2⟩
    cases b2 with
    | false =>
      clear hb2
      go_wp2_with fail
      go_ret
      exact ⟨rfl, Below.refl _ _⟩
    | true =>
      have hb2 := (hb2 rfl).1
      omega
end Go.Proofs.Ytccmflnkhabilaa.Tg
