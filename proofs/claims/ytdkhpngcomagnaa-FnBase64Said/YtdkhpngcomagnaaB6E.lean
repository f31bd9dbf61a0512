/- FnBase64: the law's walk. -/
import Derived.Test.YtdkhpngcomagnaaB6D
namespace Go.Proofs.Ytdkhpngcomagnaa.B6
open Go.RowKit
set_option linter.unusedVariables false
set_option linter.unusedSimpArgs false
theorem wrote (s : ByteArray) (hb : ∀ x, 0 ≤ ln s x ∧ ln s x < 256) : Wrote s (strOfNums ((List.range (full s)).map (ln s))) := by
  refine ⟨by rw [strOfNums_size]; simp, fun x h => ?_⟩
  have h2 : x < full s := by rw [strOfNums_size] at h; simpa using h
  show (((strOfNums ((List.range (full s)).map (ln s))).data[x]'h).toNat : Int) = ln s x
  simp only [strOfNums, List.map_map, List.getElem_toArray, List.getElem_map, List.getElem_range, Function.comp]
  rw [UInt8.toNat_ofNat']
  have := hb x
  omega
theorem ln_byte (s : ByteArray) (x : Nat) : 0 ≤ ln s x ∧ ln s x < 256 := by
  have hd : ∀ q, q < 64 → 0 ≤ dg q ∧ dg q < 256 := fun q hq => by have := dg_ne ⟨q, hq⟩; simp only at this; omega
  unfold ln
  split
  · omega
  · unfold eb
    split
    · exact hd _ (by omega)
    · split
      · exact hd _ (by omega)
      · split
        · split
          · exact hd _ (by omega)
          · omega
        · split
          · exact hd _ (by omega)
          · omega
theorem ln_feed (s : ByteArray) (x : Nat) (hx : x < full s) : (ln s x = 10 ∧ mlt s = 1 ∧ (x % 71 = 70 ∨ x + 1 = full s)) ∨ (ln s x ≠ 10 ∧ (mlt s = 0 ∨ x % 71 < 70) ∧ (x + 1 < full s ∨ mlt s = 0)) := by
  have hm2 : mlt s = 0 ∨ mlt s = 1 := by unfold mlt; split <;> omega
  by_cases h : mlt s = 1 ∧ (x % 71 = 70 ∨ x + 1 = full s)
  · exact .inl ⟨by unfold ln; rw [if_pos h], h⟩
  · obtain ⟨_, e, e3⟩ := pos_sign hx h
    refine .inr ⟨?_, by omega, by omega⟩
    rw [e]
    rcases eb_lv e3 with ⟨g, _⟩ | ⟨g, _⟩
    · rw [g]
      have := dg_ne ⟨lv s (pos s x), lv_lt s _⟩
      simp only at this
      exact fun h => by rw [h] at this; simp at this
    · rw [g]; omega
/-- How many stand behind the last line feed. -/
def behind (s : ByteArray) (x : Nat) : Nat := if mlt s = 0 then x else if x = full s then 0 else x % 71
theorem behind_le (s : ByteArray) (x : Nat) (hx : x ≤ full s) : behind s x ≤ 70 := by
  unfold behind
  split
  · rename_i h
    unfold full at hx
    rw [h] at hx
    unfold mlt at h
    split at h <;> omega
  · split <;> omega
set_option maxHeartbeats 2000000 in
set_option maxRecDepth 100000 in
theorem walk (s : ByteArray) (w : World) (hs : s.size ≤ 140737488351232) :
    Calls Try.prog 3 #[.string s] w fun e w' => e = .returned (.bool true) ∧ Below w.heap.size w w' := by
  by_cases h1 : 2147483647 < s.size
  · go_enter Try.func3, Try.ntmps3
    go_wp2_with fail
    go_ret
    exact ⟨rfl, Below.refl _ _⟩
  by_cases h2 : 2000 < s.size
  · go_enter Try.func3, Try.ntmps3
    go_wp2_with fail
    go_ret
    exact ⟨rfl, Below.refl _ _⟩
  have hw := wrote s (ln_byte s)
  obtain ⟨u, hu⟩ : ∃ u, u = strOfNums ((List.range (full s)).map (ln s)) := ⟨_, rfl⟩
  rw [← hu] at hw
  have hus : u.size ≤ 3000 := by rw [hw.size]; have := enl_le s (by omega); unfold full mlt; split <;> omega
  have henc : ∀ w0 : World, Calls Try.prog 4 #[.string s] w0 fun e w' => e = .returned (.string u) ∧ Below w0.heap.size w0 w' := by
    intro w0
    have h6 : ∀ w0 : World, Calls Try.prog 6 #[.string s] w0 fun e w' => e = .returned (.string u) ∧ Below w0.heap.size w0 w' := by
      intro w0
      have he := enc_any s w0 (by omega)
      rw [← hu] at he
      have HE := Lib.hid he
      clear he hu hw
      go_enter Try.func6, Try.ntmps6
      go_wp2_with fail
      refine HE.out.mono ?_
      rintro e w1 ⟨rfl, hb1⟩
      have HB := Lib.hid hb1
      clear hb1
      go_wp2_with fail
      go_ret
      exact ⟨rfl, HB.out⟩
    have H6 := Lib.hid h6
    clear h6 hu hw
    go_enter Try.func4, Try.ntmps4
    go_wp2_with fail
    refine (H6.out _).mono ?_
    rintro e w1 ⟨rfl, hb1⟩
    have HB := Lib.hid hb1
    clear hb1
    go_wp2_with fail
    go_ret
    exact ⟨rfl, HB.out⟩
  have HE := Lib.hid henc
  have HW := Lib.hid hw
  clear henc hw hu
  go_enter Try.func3, Try.ntmps3
  go_wp2_with fail
  refine (HE.out _).mono ?_
  rintro e w1 ⟨rfl, hb1⟩
  have HB := Lib.hid hb1
  clear hb1
  go_wp2_with fail
  go_loop [4, 18] (fun n i => ∃ x : Nat, x ≤ u.size ∧ i = .int .i64 (x : Nat) ∧ n = .int .i64 (behind s x : Nat)) (fun _ i => u.size - (intOf i).toNat)
  case atStart => exact ⟨0, by omega, rfl, by unfold behind; split; rfl; split <;> rfl⟩
  case round =>
    obtain ⟨x, hx, rfl, rfl⟩ := hrel
    by_cases hlt : x < u.size
    · have hlt' : (x : Int) < (u.size : Int) := by omega
      have hux := HW.out.at' x hlt
      have hle := behind_le s x (by rw [← HW.out.size]; omega)
      rcases ln_feed s x (by rw [← HW.out.size]; exact hlt) with ⟨f1, f2, f3⟩ | ⟨f1, f2, f3⟩
      · have hb10 : ((u[x].toNat : Int) == 10) = true := by rw [hux, f1]; rfl
        have hb : behind s (x + 1) = 0 := by unfold behind; rw [if_neg (by omega)]; split; rfl; omega
        have HBH := Lib.hid hb
        clear hux f1 f2 f3 hb
        go_wp2_with fail
        go_round
        case rel => exact ⟨x + 1, by omega, by go_num, by rw [HBH.out]; rfl⟩
        case measure => simp [intOf]; omega
      · have hb10 : ((u[x].toNat : Int) == 10) = false := by rw [hux]; simpa using f1
        have hbn : behind s (x + 1) = behind s x + 1 := by
          have := HW.out.size
          unfold behind
          split
          · rfl
          · rw [if_neg (by omega), if_neg (by omega)]; omega
        have hle2 := behind_le s (x + 1) (by rw [← HW.out.size]; omega)
        rw [hbn] at hle2
        have HBH := Lib.hid hbn
        clear hux f1 f2 f3 hbn
        go_wp2_with fail
        go_round
        case rel => exact ⟨x + 1, by omega, by go_num, by rw [HBH.out]; go_num⟩
        case measure => simp [intOf]; omega
    · go_wp2_with fail
      refine (unb_any s u w1 (by omega) HW.out).mono ?_
      rintro e w2 ⟨rfl, hb2⟩
      have HB2 := Lib.hid (HB.out.trans (hb2.mono HB.out.size))
      clear hb2
      have hss : (s.toList == s.toList) = true := by simp
      go_wp2_with fail
      go_ret
      exact ⟨rfl, HB2.out⟩
end Go.Proofs.Ytdkhpngcomagnaa.B6
