/- FnStringNode: the law's walk. -/
import Derived.Test.YtdkhpngcomagnaaDoorSnF
import Derived.Lib.OthersKept
import Derived.Laws.RangeAny
import Derived.Lib.DecodeN
import Derived.Lib.TrimUEq
namespace Go.Proofs.YtdkhpngcomagnaaDoor.Sn
open Go.RowKit
set_option linter.unusedVariables false
set_option linter.unusedSimpArgs false
theorem decodeN_cont (n b0 b1 b2 b3 : Nat) : (2 ≤ (Lib.decodeN n b0 b1 b2 b3).2 → 128 ≤ b1) ∧ (3 ≤ (Lib.decodeN n b0 b1 b2 b3).2 → 128 ≤ b2) ∧ (4 ≤ (Lib.decodeN n b0 b1 b2 b3).2 → 128 ≤ b3) ∧ (Lib.decodeN n b0 b1 b2 b3).2 ≤ 4 ∧ 1 ≤ (Lib.decodeN n b0 b1 b2 b3).2 := by
  unfold Lib.decodeN
  repeat' split
  all_goals simp only []
  all_goals refine ⟨fun h => ?_, fun h => ?_, fun h => ?_, ?_, ?_⟩ <;> omega
theorem get_bt (s : ByteArray) (i : Nat) (h : i < s.size) : (s.get! i).toNat = bt s i := by
  rw [bt_of s i h]
  simp [ByteArray.get!, getElem!_pos, h]
  rfl
theorem fed_step (s : ByteArray) (pos : Nat) (h : pos < s.size) : fed s (pos + (Utf8.decode s pos).2) = (fed s pos || bt s pos == 10) ∧ 1 ≤ (Utf8.decode s pos).2 := by
  have hd := Lib.decode_at s pos
  have hc := decodeN_cont (s.size - pos) (s.get! pos).toNat (s.get! (pos + 1)).toNat (s.get! (pos + 2)).toNat (s.get! (pos + 3)).toNat
  rw [← hd] at hc
  obtain ⟨wd, hw⟩ : ∃ wd, (Utf8.decode s pos).2 = wd := ⟨_, rfl⟩
  rw [hw] at hc ⊢
  have hb : ∀ k, 1 ≤ k → k < wd → (bt s (pos + k) == 10) = false := fun k h1 h2 => by
    rw [beq_eq_false_iff_ne]
    by_cases hk : pos + k < s.size
    · have e := get_bt s (pos + k) hk
      have : k = 1 ∨ k = 2 ∨ k = 3 := by omega
      rcases this with rfl | rfl | rfl <;> omega
    · unfold bt
      rw [dif_neg hk]
      omega
  refine ⟨?_, hc.2.2.2.2⟩
  have hcase : wd = 1 ∨ wd = 2 ∨ wd = 3 ∨ wd = 4 := by omega
  have s1 := fed_succ s pos
  have s2 := fed_succ s (pos + 1)
  have s3 := fed_succ s (pos + 2)
  have s4 := fed_succ s (pos + 3)
  rcases hcase with rfl | rfl | rfl | rfl
  · exact s1
  · rw [s2, s1, hb 1 (by omega) (by omega), Bool.or_false]
  · rw [s3, s2, s1, hb 1 (by omega) (by omega), hb 2 (by omega) (by omega), Bool.or_false, Bool.or_false]
  · rw [s4, s3, s2, s1, hb 1 (by omega) (by omega), hb 2 (by omega) (by omega), hb 3 (by omega) (by omega), Bool.or_false, Bool.or_false, Bool.or_false]
theorem fed_out (s : ByteArray) : ∀ d, fed s (s.size + d) = fed s s.size
  | 0 => rfl
  | d + 1 => by
    rw [← Nat.add_assoc, fed_succ, fed_out s d]
    unfold bt
    rw [dif_neg (by omega)]
    simp
set_option maxHeartbeats 4000000 in
set_option maxRecDepth 100000 in
theorem law_any (s0 : ByteArray) (w : World) (hs : s0.size ≤ 2147483647) (hT : ∀ w', Below w.heap.size w w' → Tabs w') :
    Calls Tryd.prog 3 #[.string s0] w fun e w' => e = .returned (.bool true) ∧ Below w.heap.size w w' := by
  obtain ⟨s, HS⟩ : ∃ s, Hid (sized s0 = s) := ⟨_, rfl⟩
  have hv : Lib.validD s.data.toList = true := by rw [← HS.out]; exact sized_valid s0
  have hz : s.size ≤ 1200 := by rw [← HS.out]; exact sized_size s0
  obtain ⟨x, HX⟩ : ∃ x : Int, Hid ((if fed s s.size then 8 else 0) = x) := ⟨_, rfl⟩
  have h0 : decide (2147483647 < (s0.size : Int)) = false := by simp; omega
  have h0' : decide (2147483647 < s0.size) = false := by simp; omega
  have hc := sized_any s0 w hs
  rw [HS.out] at hc
  have HC := Lib.hid hc
  have HT := Lib.hid hT
  have HV := Lib.hid hv
  clear hc hT hv
  go_enter Tryd.func3, Tryd.ntmps3
  go_wp2_with fail
  refine HC.out.mono ?_
  rintro e w1 ⟨rfl, hb1⟩
  have hsn := snode_any s x w1 hz HV.out HX.out (fun w' h => HT.out w' (hb1.trans (h.mono hb1.size)))
  simp only [out] at hsn
  have HSN := Lib.hid hsn
  have HB1 := Lib.hid hb1
  clear hsn hb1
  go_wp2_with fail
  refine HSN.out.mono ?_
  rintro e w2 ⟨rfl, hb2⟩
  have HB2 := Lib.hid (HB1.out.trans (hb2.mono HB1.out.size))
  clear hb2 HSN
  go_wp2_with fail
  obtain ⟨wa, HWA⟩ : ∃ wa : World, Hid ((w2.alloc (.cells (out x ⟨#[33, 33, 115, 116, 114]⟩ s).toArray 25)).iter s 0 = wa) := ⟨_, rfl⟩
  obtain ⟨nb, HNB⟩ : ∃ nb : Nat, Hid (w2.heap.size = nb) := ⟨_, rfl⟩
  have hn2 := HB2.out.size
  have hit : wa.heap[nb + 1]? = some (.stringIter s 0) := by
    have := World.iter_heap (w2.alloc (.cells (out x ⟨#[33, 33, 115, 116, 114]⟩ s).toArray 25)) s 0
    rw [World.size_alloc, HWA.out, HNB.out] at this
    exact this
  have hbk : Bk wa nb 25 (out x ⟨#[33, 33, 115, 116, 114]⟩ s) := by
    have h1 := Bk.new w2 (out x ⟨#[33, 33, 115, 116, 114]⟩ s) 25
    rw [HNB.out] at h1
    rw [← HWA.out]
    exact h1.alloc _
  have hbw : Below w.heap.size w wa := by
    rw [← HWA.out]
    exact (HB2.out.alloc hn2 _).alloc (by rw [World.size_alloc]; omega) _
  rw [show ((w2.alloc (.cells #[.int .i64 8, .int .i64 x, .string ⟨#[33, 33, 115, 116, 114]⟩, .string s, .string ⟨#[]⟩, .string ⟨#[]⟩, .string ⟨#[]⟩, .string ⟨#[]⟩, .int .i64 0, .int .i64 0, .int .i64 (-1), .slice none 0 0] 25)).iter s 0) = wa from HWA.out, HNB.out]
  have hnb : w.heap.size ≤ nb := by rw [← HNB.out]; exact hn2
  have HIT := Lib.hid hit
  have HBK := Lib.hid hbk
  have HBW := Lib.hid hbw
  clear hit hbk hbw hn2
  go_loopg [4] s.size (fun g s4 wr => ∃ pos : Nat, g = s.size - pos ∧ s4 = .int .i64 (if fed s pos then 8 else 0) ∧ wr.heap[nb + 1]? = some (.stringIter s pos) ∧ Bk wr nb 25 (out x ⟨#[33, 33, 115, 116, 114]⟩ s) ∧ Below w.heap.size w wr)
  case atStart => exact ⟨0, rfl, rfl, HIT.out, HBK.out, HBW.out⟩
  obtain ⟨pos, hgk, hs4, hit, hbk, hbw⟩ := hrel
  have HGK := Lib.hid hgk
  have HBK1 := Lib.hid hbk
  have HBW1 := Lib.hid hbw
  have HIT1 := Lib.hid hit
  by_cases hp : pos < s.size
  · have hnx : ∀ ty, (Instr.next (.pointer (some ⟨nb + 1, 0, none⟩)) true ty).run Tryd.prog wr = _ := fun ty => Lib.run_next_any_at wr (nb + 1) s pos ty hit hp
    obtain ⟨hst, hw1⟩ := fed_step s pos hp
    obtain ⟨wd, hwd⟩ : ∃ wd, (Utf8.decode s pos).2 = wd := ⟨_, rfl⟩
    rw [hwd] at hnx hst hw1
    have HST := Lib.hid hst
    have j0 : (0 : Int) ≤ (pos : Int) := by omega
    have j1 : (pos : Int) < (s.size : Int) := by omega
    have hb : (((s[pos]'hp).toNat : Int) == 10) = (bt s pos == 10) := by
      rw [bt_of s pos hp, Bool.eq_iff_iff, beq_iff_eq, beq_iff_eq]
      omega
    have hit2 := Lib.iterAt_heap wr (nb + 1) s pos (pos + wd) hit
    have hbw2 := Lib.below_iterAt hbw (k := nb + 1) (by omega) s (pos + wd)
    have hbk2 : Bk (wr.iterAt (nb + 1) s (pos + wd)) nb 25 (out x ⟨#[33, 33, 115, 116, 114]⟩ s) := (Lib.iterAt_other wr (nb + 1) nb s (pos + wd) (by omega)).trans hbk
    have HIT2 := Lib.hid hit2
    have HBW2 := Lib.hid hbw2
    have HBK2 := Lib.hid hbk2
    have HS4 := Lib.hid hs4
    clear hgk hbk hbw hit hwd hit2 hbw2 hbk2 hs4 hst
    cases hbb : (bt s pos == 10) with
    | true =>
      rw [hbb] at hb
      have h8 := HST.out
      rw [hbb, Bool.or_true] at h8
      have H8 := Lib.hid h8
      clear h8 hbb
      go_wp2_with fail
      go_roundg (s.size - (pos + wd))
      case measure => have := HGK.out; omega
      case rel => exact ⟨pos + wd, rfl, by rw [H8.out]; rfl, HIT2.out, HBK2.out, HBW2.out⟩
    | false =>
      rw [hbb] at hb
      have h8 := HST.out
      rw [hbb, Bool.or_false] at h8
      have H8 := Lib.hid h8
      clear h8 hbb
      go_wp2_with fail
      go_roundg (s.size - (pos + wd))
      case measure => have := HGK.out; omega
      case rel => exact ⟨pos + wd, rfl, by rw [H8.out]; exact HS4.out, HIT2.out, HBK2.out, HBW2.out⟩
  · have hnx : ∀ ty, (Instr.next (.pointer (some ⟨nb + 1, 0, none⟩)) true ty).run Tryd.prog wr = _ := fun ty => Lib.run_next_end_at wr (nb + 1) s pos ty hit hp
    have hfe : fed s pos = fed s s.size := by
      obtain ⟨d, rfl⟩ : ∃ d, pos = s.size + d := ⟨pos - s.size, by omega⟩
      exact fed_out s d
    rw [hfe, HX.out] at hs4
    subst hs4
    obtain ⟨q0, k0⟩ := at_ hbk 0 rfl
    obtain ⟨q1, k1⟩ := at_ hbk 1 rfl
    obtain ⟨q2, k2⟩ := at_ hbk 2 rfl
    obtain ⟨q3, k3⟩ := at_ hbk 3 rfl
    obtain ⟨q4, k4⟩ := at_ hbk 4 rfl
    obtain ⟨q5, k5⟩ := at_ hbk 5 rfl
    obtain ⟨q6, k6⟩ := at_ hbk 6 rfl
    obtain ⟨q7, k7⟩ := at_ hbk 7 rfl
    obtain ⟨q8, k8⟩ := at_ hbk 8 rfl
    obtain ⟨q9, k9⟩ := at_ hbk 9 rfl
    obtain ⟨q10, k10⟩ := at_ hbk 10 rfl
    obtain ⟨q11, k11⟩ := at_ hbk 11 rfl
    clear hgk hbk hbw hit hfe
    have he : ((⟨#[]⟩ : ByteArray) ++ ⟨#[]⟩ ++ ⟨#[]⟩ ++ ⟨#[]⟩).toList = [] := by rw [Lib.toList_data]; rfl
    go_wp2_with fail
    go_ret
    exact ⟨rfl, HBW1.out⟩
set_option maxHeartbeats 1000000 in
theorem law_great (s : ByteArray) (hs : 2147483647 < s.size) (hm : s.size ≤ 140737488351232) (w : World) :
    Calls Tryd.prog 3 #[.string s] w fun e w' => e = .returned (.bool true) ∧ Below w.heap.size w w' := by
  have h0 : decide (2147483647 < (s.size : Int)) = true := by simp; omega
  have h0' : decide (2147483647 < s.size) = true := by simp; omega
  go_enter Tryd.func3, Tryd.ntmps3
  go_wp2_with fail
  go_ret
  exact ⟨rfl, Below.refl _ _⟩
theorem law_walk (a : ByteArray) (W : World) (hT : ∀ w', Below W.heap.size W w' → Tabs w') (ha : a.size ≤ 140737488351232) :
    Calls Tryd.prog 3 #[.string a] W fun e W' => e = .returned (.bool true) ∧ Below W.heap.size W W' := by
  by_cases hs : a.size ≤ 2147483647
  · exact law_any a W hs hT
  · exact law_great a (by omega) ha W
end Go.Proofs.YtdkhpngcomagnaaDoor.Sn
