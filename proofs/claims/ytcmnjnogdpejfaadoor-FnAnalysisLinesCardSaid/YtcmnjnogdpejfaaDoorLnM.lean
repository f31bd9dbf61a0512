/- FnAnalysisLines: the law's walk. -/
import Derived.Test.YtcmnjnogdpejfaaDoorLnL
import Derived.Laws.IdiomStrings
namespace Go.Proofs.YtcmnjnogdpejfaaDoor.Ln
open Go.RowKit
set_option linter.unusedVariables false
set_option linter.unusedSimpArgs false
/-- A text is laid in memory. -/
theorem conv_any (s : ByteArray) (w : World) : ∃ c w', (convert 9 26 (.string s)).run Tryd.prog w = .ok (.slice (some ⟨w.heap.size, 0, none⟩) s.size c) w' ∧ Below w.heap.size w w' ∧ w'.heap.size = w.heap.size + 1 ∧ Cells w' w.heap.size s := by
  have hr := run_bytes_of_string (P := Tryd.prog) w 9 26 5 s Tryd.underlying9 Tryd.underlying26 Tryd.underlying5
  refine ⟨_, _, hr, (Below.refl _ _).drew.alloc (Nat.le_refl _) _, by simp, fun i hi => ?_⟩
  have hcell : (bytesRow s (grownCap w s.size 0 5))[i]? = some (.int .u8 ((bt s i : Nat) : Int)) := by
    unfold bytesRow
    rw [Array.getElem?_append_left (by simp; exact hi)]
    unfold bt
    simp [hi, ByteArray.get!]
  rw [← hcell]
  generalize bytesRow s (grownCap w s.size 0 5) = C
  generalize (C.size, C.size + 1) = fr
  have hh : (w.drew.alloc (.cells C 5 fr)).heap[w.heap.size]? = some (.cells C 5 fr) := by
    show (w.heap.push (.cells C 5 fr))[w.heap.size]? = _
    simp
  unfold World.cell?
  show (match (w.drew.alloc (.cells C 5 fr)).heap[w.heap.size]? with | some (.cells c _ _) => c[i]? | _ => none) = C[i]?
  rw [hh]
theorem any_all : ∀ (l : List Int), l.all cl = true → (l.all (okc false)) = !(l.any (· == 10))
  | [], _ => rfl
  | c :: l, h => by
    rw [List.all_cons, Bool.and_eq_true] at h
    rw [List.all_cons, List.any_cons, any_all l h.2]
    have h1 := h.1
    unfold cl at h1
    unfold okc
    cases h10 : (c == 10) with
    | true =>
      have : c = 10 := by simpa using h10
      subst this
      rfl
    | false =>
      rw [h10, Bool.or_false] at h1
      rw [h1]
      simp
theorem field_run (M v1 v2 v3 v4 : Bool) (w : World) : (Instr.field 24 (.agg #[.bool M, .bool v1, .bool v2, .bool v3, .bool v4]) 0).run Tryd.prog w = .ok (.bool M) w := by kernel_rfl
set_option maxHeartbeats 4000000 in
set_option maxRecDepth 100000 in
theorem law_any (s : ByteArray) (u : Bool) (w : World) (hs : s.size ≤ 2147483647) (hT : ∀ w', Below w.heap.size w w' → Tabs w') :
    Calls Tryd.prog 3 #[.string s, .bool u] w fun e w' => e = .returned (.bool true) ∧ Below w.heap.size w w' := by
  have h0 : decide (2147483647 < (s.size : Int)) = false := by simp; omega
  have h0' : decide (2147483647 < s.size) = false := by simp; omega
  have hrows := rows_any s w hs (hT w (Below.refl _ _))
  cases hL : lined true s with
  | false =>
    rw [hL] at hrows
    have HR := Lib.hid hrows
    clear hrows hL hT
    go_enter Tryd.func3, Tryd.ntmps3
    go_wp2_with fail
    refine HR.out.mono ?_
    rintro e w1 ⟨rfl, hb⟩
    go_wp2_with fail
    go_ret
    exact ⟨rfl, hb⟩
  | true =>
    rw [hL] at hrows
    unfold lined at hL
    rw [Bool.and_eq_true, Bool.and_eq_true, decide_eq_true_eq] at hL
    obtain ⟨⟨hsz, hv⟩, hall⟩ := hL
    obtain ⟨l, hl⟩ : ∃ l, rsFrom s s.size 0 = l := ⟨_, rfl⟩
    have hrun : Run s 0 l := by rw [← hl]; exact run_of s s.size 0 (by omega) (Nat.zero_le _) (by rw [List.drop_zero]; exact hv)
    have hcl : l.all cl = true := by
      rw [← hl, ← hall]
      congr 1
    obtain ⟨M, hM⟩ : ∃ M, l.any (· == 10) = M := ⟨_, rfl⟩
    have hrow : lined false s = !M := by
      unfold lined
      rw [decide_eq_true hsz, hv, hl, any_all l hcl, hM]
      rfl
    have HR := Lib.hid hrows
    have HRUN := Lib.hid hrun
    have HCL := Lib.hid hcl
    have HM := Lib.hid hM
    have HROW := Lib.hid hrow
    have HT := Lib.hid hT
    clear hrows hrun hcl hM hrow hT hall hv hl
    go_enter Tryd.func3, Tryd.ntmps3
    go_wp2_with fail
    refine HR.out.mono ?_
    rintro e w1 ⟨rfl, hb1⟩
    obtain ⟨c, w2, hconv, hb2, hsz2, hc2⟩ := conv_any s w1
    have himp := impl_any w1.heap.size c u s l w2 (by omega) (by omega) hc2 HRUN.out HCL.out
    rw [HM.out] at himp
    have hb12 := hb1.trans (hb2.mono hb1.size)
    have HI := Lib.hid himp
    have HB2 := Lib.hid hb12
    obtain ⟨n, HN⟩ : ∃ n, Hid (s.size = n) := ⟨_, rfl⟩
    rw [HN.out] at hconv
    rw [HN.out] at HI
    clear himp hb12 hb2 hc2 hb1
    go_wp2_with fail
    refine HI.out.mono ?_
    rintro e w3 ⟨⟨v1, v2, v3, v4, rfl⟩, hb3⟩
    have hb13 := HB2.out.trans (hb3.mono HB2.out.size)
    have hr := row_any s w3 hs (HT.out w3 hb13)
    rw [HROW.out] at hr
    have HRW := Lib.hid hr
    have HB3 := Lib.hid hb13
    clear hr hb3 hb13
    have hfr := field_run M v1 v2 v3 v4
    go_wp2_with fail
    refine HRW.out.mono ?_
    rintro e w4 ⟨rfl, hb4⟩
    have HB4 := Lib.hid (HB3.out.trans (hb4.mono HB3.out.size))
    clear hb4 HM HROW
    cases M with
    | false =>
      go_wp2_with fail
      go_ret
      exact ⟨rfl, HB4.out⟩
    | true =>
      go_wp2_with fail
      go_ret
      exact ⟨rfl, HB4.out⟩
set_option maxHeartbeats 1000000 in
theorem law_great (s : ByteArray) (u : Bool) (hs : 2147483647 < s.size) (hm : s.size ≤ 140737488351232) (w : World) :
    Calls Tryd.prog 3 #[.string s, .bool u] w fun e w' => e = .returned (.bool true) ∧ Below w.heap.size w w' := by
  have h0 : decide (2147483647 < (s.size : Int)) = true := by simp; omega
  have h0' : decide (2147483647 < s.size) = true := by simp; omega
  go_enter Tryd.func3, Tryd.ntmps3
  go_wp2_with fail
  go_ret
  exact ⟨rfl, Below.refl _ _⟩
theorem law_walk (a : ByteArray) (u : Bool) (W : World) (hT : ∀ w', Below W.heap.size W w' → Tabs w') (ha : a.size ≤ 140737488351232) :
    Calls Tryd.prog 3 #[.string a, .bool u] W fun e W' => e = .returned (.bool true) ∧ Below W.heap.size W W' := by
  by_cases hs : a.size ≤ 2147483647
  · exact law_any a u W hs hT
  · exact law_great a u (by omega) ha W
end Go.Proofs.YtcmnjnogdpejfaaDoor.Ln
