/- FnDirectivesAnalyzed: the law's walk where the handle has no ! at an end, or there is no prefix. -/
import Derived.Test.YtccmflnkhabilaaDirL
namespace Go.Proofs.Ytccmflnkhabilaa.DirL
open Go.RowKit Go.Proofs.Ytccmflnkhabilaa.Em Go.Proofs.Ytccmflnkhabilaa.Dir
set_option linter.unusedVariables false
set_option maxHeartbeats 2000000 in
set_option maxRecDepth 100000 in
theorem law_off (b o n c m d : Nat) (B : Option Addr) (z : Nat → Int) (w : World) (hn0 : 0 < n) (hn : n ≤ 1024) (hm : m ≤ 1024)
    (hz : ∀ i, i < n → w.cell? ⟨b, o + i, none⟩ = some (.int .u8 (z i))) (hb : b < w.heap.size) (hr : ∀ i, 0 ≤ z i ∧ z i < 256) (hoff : z 0 ≠ 33 ∨ z (n - 1) ≠ 33 ∨ m = 0) :
    Calls Try.prog 3 #[.slice (some ⟨b, o, none⟩) n c, .slice B m d] w fun e w' => e = .returned (.bool true) ∧ Below w.heap.size w w' := by
  have hfine : fine n m (zin n z) = false := by
    unfold fine
    rw [decide_eq_false_iff_not]
    rintro ⟨_, h1, h2, _, h3⟩
    rw [show zin n z 0 = z 0 by unfold zin; rw [if_pos hn0]] at h1
    rw [show zin n z (n - 1) = z (n - 1) by unfold zin; rw [if_pos (by omega)]] at h2
    omega
  have HFI := Lib.hid hfine
  have HZ := Lib.hid hz
  have HR := Lib.hid hr
  have c0 := hz 0 hn0
  rw [Nat.add_zero] at c0
  have cl := hz (n - 1) (by omega)
  have en : ((n : Int) - 1).toNat = n - 1 := by omega
  have en2 : IntKind.i64.wrap ((n : Int) - 1) = (n : Int) - 1 := by exact IntWalk.i64_in _ (by omega)
  have hcase : (z 0 == 33) = false ∨ ((z 0 == 33) = true ∧ (z (n - 1) == 33) = false) ∨ ((z 0 == 33) = true ∧ (z (n - 1) == 33) = true ∧ m = 0) := by
    by_cases a : z 0 = 33
    · have a' : (z 0 == 33) = true := by simpa using a
      by_cases l : z (n - 1) = 33
      · have l' : (z (n - 1) == 33) = true := by simpa using l
        rcases hoff with h | h | h
        · exact absurd a h
        · exact absurd l h
        · exact .inr (.inr ⟨a', l', h⟩)
      · exact .inr (.inl ⟨a', by simpa using l⟩)
    · exact .inl (by simpa using a)
  clear hz hr hoff hfine
  go_enter Try.func3, Try.ntmps3
  rcases hcase with a | ⟨a, l⟩ | ⟨a, l, rfl⟩
  all_goals
    go_wp2_with fail
    go_loopw [6, 50] (fun f i wr => ∃ k : Nat, k ≤ n ∧ i = .int .i64 k ∧ f = .bool false ∧ (∀ j, j < k → z j < 128) ∧ Below w.heap.size w wr) (fun _ i _ => n - (intOf i).toNat)
    case atStart => exact ⟨0, Nat.zero_le _, rfl, rfl, by omega, Below.refl _ _⟩
    case round =>
      obtain ⟨k, hk, rfl, rfl, h128, hbel⟩ := hrel
      have HB := Lib.hid hbel
      have H128 := Lib.hid h128
      clear hbel h128
      by_cases hkn : k < n
      · have ck : wr.cell? ⟨b, o + k, none⟩ = some (.int .u8 (z k)) := by rw [HB.out.cell (p := ⟨b, o + k, none⟩) hb]; exact HZ.out k hkn
        have rk := HR.out k
        by_cases h8 : 128 ≤ z k
        · go_wp2_with fail
          go_ret
          exact ⟨rfl, HB.out⟩
        · go_wp2_with fail
          go_quiet (fail)
          go_wp2_with fail
          go_roundw
          case rel => exact ⟨k + 1, by omega, by go_num, rfl, fun j hj => by have := H128.out j; by_cases e : j = k; (subst e; omega); (exact this (by omega)), drewN HB.out _⟩
          case measure => simp [intOf]; omega
      · have hk' : k = n := by omega
        have HK := Lib.hid hk'
        clear hk'
        go_wp2_with fail
        have hempty := fun w0 : World => impl_bool 0 0 0 0 none none (fun _ => 0) w0 false (by unfold fine; simp) (by omega) (by omega) (.inl rfl) (fun i => ⟨by omega, by omega⟩)
        have hz' : ∀ i, 0 ≤ zin n z i ∧ zin n z i < 128 := by
          intro i
          unfold zin
          split
          · rename_i h; have := (HR.out i).1; exact ⟨this, H128.out i (by rw [HK.out]; exact h)⟩
          · omega
        have hfull := fun (w0 : World) (hw : Below w.heap.size w w0) => impl_bool n c _ d (some ⟨b, o, none⟩) B (zin n z) w0 false HFI.out (by omega) (by omega) (.inr ⟨b, o, rfl, by have := hw.size; omega, fun i hi => by rw [hw.cell (p := ⟨b, o + i, none⟩) hb]; unfold zin; rw [if_pos hi]; exact HZ.out i hi⟩) hz'
        have HE := Lib.hid hempty
        have HL := Lib.hid hfull
        clear hempty hfull hz' c0 cl
        go_wp2_with fail
        refine (HE.out _).mono ?_
        rintro e w1 ⟨rfl, hb1⟩
        have HB1 := Lib.hid (HB.out.trans (hb1.mono HB.out.size))
        have hs1 := HB1.out.size
        clear hb1
        simp only [flt, Bool.false_eq_true, if_false]
        go_wp2_with fail
        refine (HL.out _ ?_).mono ?_
        · exact HB1.out.alloc hs1 _
        rintro e w2 ⟨rfl, hb2⟩
        have HB2 := Lib.hid ((HB1.out.alloc hs1 _).trans (hb2.mono (by simp; omega)))
        have c9 : w2.cell? ⟨w1.heap.size, 0, none⟩ = some (.int .i64 5) := by
          rw [(bcell hb2).1 _ _ (by simp)]
          simp
        clear hb2
        have hfd := field0
        simp only [flt, Bool.false_eq_true, if_false]
        go_wp2_with fail
        go_ret
        exact ⟨rfl, HB2.out⟩
set_option maxHeartbeats 2000000 in
set_option maxRecDepth 100000 in
theorem law_nil (A B : Option Addr) (c m d : Nat) (w : World) (hm : m ≤ 1024) :
    Calls Try.prog 3 #[.slice A 0 c, .slice B m d] w fun e w' => e = .returned (.bool true) ∧ Below w.heap.size w w' := by
  go_enter Try.func3, Try.ntmps3
  go_wp2_with fail
  go_loopw [6, 50] (fun f i wr => i = .int .i64 0 ∧ f = .bool false ∧ Below w.heap.size w wr) (fun _ i _ => 0 - (intOf i).toNat)
  case atStart => exact ⟨rfl, rfl, Below.refl _ _⟩
  case round =>
    obtain ⟨rfl, rfl, hbel⟩ := hrel
    have HB := Lib.hid hbel
    clear hbel
    go_wp2_with fail
    have hempty := fun w0 : World => impl_bool 0 0 0 0 none none (fun _ => 0) w0 false (by unfold fine; simp) (by omega) (by omega) (.inl rfl) (fun i => ⟨by omega, by omega⟩)
    have hfull := fun (w0 : World) => impl_bool 0 c m d A B (fun _ => 0) w0 false (by unfold fine; simp) (by omega) (by omega) (.inl rfl) (fun i => ⟨by omega, by omega⟩)
    have HE := Lib.hid hempty
    have HL := Lib.hid hfull
    clear hempty hfull
    go_wp2_with fail
    refine (HE.out _).mono ?_
    rintro e w1 ⟨rfl, hb1⟩
    have HB1 := Lib.hid (HB.out.trans (hb1.mono HB.out.size))
    have hs1 := HB1.out.size
    clear hb1
    simp only [flt, Bool.false_eq_true, if_false]
    go_wp2_with fail
    refine (HL.out _).mono ?_
    rintro e w2 ⟨rfl, hb2⟩
    have HB2 := Lib.hid ((HB1.out.alloc hs1 _).trans (hb2.mono (by simp; omega)))
    have c9 : w2.cell? ⟨w1.heap.size, 0, none⟩ = some (.int .i64 5) := by
      rw [(bcell hb2).1 _ _ (by simp)]
      simp
    clear hb2
    have hfd := field0
    simp only [flt, Bool.false_eq_true, if_false]
    go_wp2_with fail
    go_ret
    exact ⟨rfl, HB2.out⟩
set_option maxHeartbeats 1000000 in
theorem law_large (A B : Option Addr) (n c m d : Nat) (w : World) (hn : n ≤ 9223372036854775807) (hm : m ≤ 9223372036854775807) (h : 1024 < n ∨ 1024 < m) :
    Calls Try.prog 3 #[.slice A n c, .slice B m d] w fun e w' => e = .returned (.bool true) ∧ Below w.heap.size w w' := by
  have hcase : 2147483647 < n ∨ (n ≤ 2147483647 ∧ 2147483647 < m) ∨ (n ≤ 2147483647 ∧ m ≤ 2147483647 ∧ 1024 < n) ∨ (n ≤ 1024 ∧ m ≤ 2147483647 ∧ 1024 < m) := by omega
  clear h
  rcases hcase with h1 | ⟨h1, h2⟩ | ⟨h1, h2, h3⟩ | ⟨h1, h2, h3⟩
  all_goals
    go_enter Try.func3, Try.ntmps3
    go_wp2_with fail
    go_ret
    exact ⟨rfl, Below.refl _ _⟩
end Go.Proofs.Ytccmflnkhabilaa.DirL
