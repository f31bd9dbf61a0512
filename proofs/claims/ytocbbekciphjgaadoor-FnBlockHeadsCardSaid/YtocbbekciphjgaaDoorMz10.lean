/- QeD, QeE, Nd: parts of the proof, one behind another. -/
import Derived.Test.YtocbbekciphjgaaDoorRows
import Derived.WalkKit
import Derived.WalkSpells
import Derived.WalkLawsBesides
import Derived.Laws.AppendOwn
import Derived.Laws.BytesArg
import Derived.RowKit3
import Derived.Lib.Hide
import Derived.Lib.Strings
import Derived.Below
import Derived.BigGuard
import Derived.BigCall
import Derived.Test.YtocbbekciphjgaaDoorMz8
import Derived.Test.YtocbbekciphjgaaDoorMz9
/- QeD -/
/- Small functions of the reference (scWhite, scHex, scLong, scNamed): walked. Printed by genQeD.py. -/
namespace Go.Proofs.YtocbbekciphjgaaDoor.Dq
open Go.RowKit Go.Proofs.YtocbbekciphjgaaDoor.Qd
set_option linter.unusedVariables false
set_option linter.unusedSimpArgs false
set_option maxHeartbeats 4000000 in
set_option maxRecDepth 100000 in
theorem white_any (c : Int) (w : World) : Calls Tryd.prog 48 #[.int .i32 c] w fun e w' => e = .returned (.bool (wh c)) ∧ w' = w := by
  obtain ⟨b1, e1⟩ : ∃ b, (c == 32) = b := ⟨_, rfl⟩
  obtain ⟨b2, e2⟩ : ∃ b, (c == 9) = b := ⟨_, rfl⟩
  have hr : wh c = (b1 || b2) := by unfold wh; rw [e1, e2]
  rw [hr]
  clear hr
  cases b1 <;> cases b2
  all_goals
    go_enter Tryd.func48, Tryd.ntmps48
    go_wp2_with fail
    go_ret
    exact ⟨rfl, rfl⟩
/-- What a hex digit is worth; -1: it is none. -/
def hexi (c : Int) : Int := (hexd c).getD (-1)
set_option maxHeartbeats 4000000 in
set_option maxRecDepth 100000 in
theorem long_any (c : Int) (w : World) : Calls Tryd.prog 75 #[.int .i32 c] w fun e w' => e = .returned (.int .i64 (long c : Nat)) ∧ w' = w := by
  by_cases q120 : c = 120
  · subst q120
    go_enter Tryd.func75, Tryd.ntmps75
    go_wp2_with fail
    go_ret
    exact ⟨rfl, rfl⟩
  by_cases q117 : c = 117
  · subst q117
    go_enter Tryd.func75, Tryd.ntmps75
    go_wp2_with fail
    go_ret
    exact ⟨rfl, rfl⟩
  by_cases q85 : c = 85
  · subst q85
    go_enter Tryd.func75, Tryd.ntmps75
    go_wp2_with fail
    go_ret
    exact ⟨rfl, rfl⟩
  have n120 : (c == 120) = false := nb q120
  have n117 : (c == 117) = false := nb q117
  have n85 : (c == 85) = false := nb q85
  rw [show long c = 0 by unfold long; rw [if_neg q120, if_neg q117, if_neg q85]]
  clear q120 q117 q85
  go_enter Tryd.func75, Tryd.ntmps75
  go_wp2_with fail
  go_ret
  exact ⟨rfl, rfl⟩
/-- The character that a letter stands for; -1: none. -/
def namei (c : Int) : Int := (named c).getD (-1)
set_option maxHeartbeats 4000000 in
set_option maxRecDepth 100000 in
theorem named_any (c : Int) (w : World) : Calls Tryd.prog 76 #[.int .i32 c] w fun e w' => e = .returned (.int .i32 (namei c)) ∧ w' = w := by
  by_cases q48 : c = 48
  · subst q48
    go_enter Tryd.func76, Tryd.ntmps76
    go_wp2_with fail
    go_ret
    exact ⟨rfl, rfl⟩
  by_cases q97 : c = 97
  · subst q97
    go_enter Tryd.func76, Tryd.ntmps76
    go_wp2_with fail
    go_ret
    exact ⟨rfl, rfl⟩
  by_cases q98 : c = 98
  · subst q98
    go_enter Tryd.func76, Tryd.ntmps76
    go_wp2_with fail
    go_ret
    exact ⟨rfl, rfl⟩
  by_cases q116 : c = 116
  · subst q116
    go_enter Tryd.func76, Tryd.ntmps76
    go_wp2_with fail
    go_ret
    exact ⟨rfl, rfl⟩
  by_cases q9 : c = 9
  · subst q9
    go_enter Tryd.func76, Tryd.ntmps76
    go_wp2_with fail
    go_ret
    exact ⟨rfl, rfl⟩
  by_cases q110 : c = 110
  · subst q110
    go_enter Tryd.func76, Tryd.ntmps76
    go_wp2_with fail
    go_ret
    exact ⟨rfl, rfl⟩
  by_cases q118 : c = 118
  · subst q118
    go_enter Tryd.func76, Tryd.ntmps76
    go_wp2_with fail
    go_ret
    exact ⟨rfl, rfl⟩
  by_cases q102 : c = 102
  · subst q102
    go_enter Tryd.func76, Tryd.ntmps76
    go_wp2_with fail
    go_ret
    exact ⟨rfl, rfl⟩
  by_cases q114 : c = 114
  · subst q114
    go_enter Tryd.func76, Tryd.ntmps76
    go_wp2_with fail
    go_ret
    exact ⟨rfl, rfl⟩
  by_cases q101 : c = 101
  · subst q101
    go_enter Tryd.func76, Tryd.ntmps76
    go_wp2_with fail
    go_ret
    exact ⟨rfl, rfl⟩
  by_cases q32 : c = 32
  · subst q32
    go_enter Tryd.func76, Tryd.ntmps76
    go_wp2_with fail
    go_ret
    exact ⟨rfl, rfl⟩
  by_cases q34 : c = 34
  · subst q34
    go_enter Tryd.func76, Tryd.ntmps76
    go_wp2_with fail
    go_ret
    exact ⟨rfl, rfl⟩
  by_cases q92 : c = 92
  · subst q92
    go_enter Tryd.func76, Tryd.ntmps76
    go_wp2_with fail
    go_ret
    exact ⟨rfl, rfl⟩
  by_cases q78 : c = 78
  · subst q78
    go_enter Tryd.func76, Tryd.ntmps76
    go_wp2_with fail
    go_ret
    exact ⟨rfl, rfl⟩
  by_cases q95 : c = 95
  · subst q95
    go_enter Tryd.func76, Tryd.ntmps76
    go_wp2_with fail
    go_ret
    exact ⟨rfl, rfl⟩
  by_cases q76 : c = 76
  · subst q76
    go_enter Tryd.func76, Tryd.ntmps76
    go_wp2_with fail
    go_ret
    exact ⟨rfl, rfl⟩
  by_cases q80 : c = 80
  · subst q80
    go_enter Tryd.func76, Tryd.ntmps76
    go_wp2_with fail
    go_ret
    exact ⟨rfl, rfl⟩
  have n48 : (c == 48) = false := nb q48
  have n97 : (c == 97) = false := nb q97
  have n98 : (c == 98) = false := nb q98
  have n116 : (c == 116) = false := nb q116
  have n9 : (c == 9) = false := nb q9
  have n110 : (c == 110) = false := nb q110
  have n118 : (c == 118) = false := nb q118
  have n102 : (c == 102) = false := nb q102
  have n114 : (c == 114) = false := nb q114
  have n101 : (c == 101) = false := nb q101
  have n32 : (c == 32) = false := nb q32
  have n34 : (c == 34) = false := nb q34
  have n92 : (c == 92) = false := nb q92
  have n78 : (c == 78) = false := nb q78
  have n95 : (c == 95) = false := nb q95
  have n76 : (c == 76) = false := nb q76
  have n80 : (c == 80) = false := nb q80
  rw [show namei c = (-1) by unfold namei named; simp only [q48, q97, q98, q116, q9, q110, q118, q102, q114, q101, q32, q34, q92, q78, q95, q76, q80, or_self, if_false]; rfl]
  clear q48 q97 q98 q116 q9 q110 q118 q102 q114 q101 q32 q34 q92 q78 q95 q76 q80
  go_enter Tryd.func76, Tryd.ntmps76
  go_wp2_with fail
  go_ret
  exact ⟨rfl, rfl⟩
set_option maxHeartbeats 4000000 in
set_option maxRecDepth 100000 in
theorem hexi_any (c : Int) (h0 : 0 ≤ c) (h1 : c ≤ 2147483647) (w : World) : Calls Tryd.prog 77 #[.int .i32 c] w fun e w' => e = .returned (.int .i32 (hexi c)) ∧ w' = w := by
  have hcs : c ≤ 47 ∨ (48 ≤ c ∧ c ≤ 57) ∨ (58 ≤ c ∧ c ≤ 64) ∨ (65 ≤ c ∧ c ≤ 70) ∨ (71 ≤ c ∧ c ≤ 96) ∨ (97 ≤ c ∧ c ≤ 102) ∨ 103 ≤ c := by omega
  rcases hcs with h | h | h | h | h | h | h
  · have hr : hexi c = (-1) := by
      unfold hexi hexd
      rw [if_neg (by omega), if_neg (by omega), if_neg (by omega)]; rfl
    rw [hr]
    have d0 : decide (48 ≤ c) = false := decide_eq_false (by omega)
    have d1 : decide (c ≤ 57) = true := decide_eq_true (by omega)
    have d2 : decide (97 ≤ c) = false := decide_eq_false (by omega)
    have d3 : decide (c ≤ 102) = true := decide_eq_true (by omega)
    have d4 : decide (65 ≤ c) = false := decide_eq_false (by omega)
    have d5 : decide (c ≤ 70) = true := decide_eq_true (by omega)
    clear hr
    go_enter Tryd.func77, Tryd.ntmps77
    go_wp2_with fail
    go_ret
    first | exact ⟨rfl, rfl⟩ | exact ⟨ret_n (by omega), rfl⟩
  · have hr : hexi c = c - 48 := by
      unfold hexi hexd
      rw [if_pos (by omega)]; rfl
    rw [hr]
    have d0 : decide (48 ≤ c) = true := decide_eq_true (by omega)
    have d1 : decide (c ≤ 57) = true := decide_eq_true (by omega)
    have d2 : decide (97 ≤ c) = false := decide_eq_false (by omega)
    have d3 : decide (c ≤ 102) = true := decide_eq_true (by omega)
    have d4 : decide (65 ≤ c) = false := decide_eq_false (by omega)
    have d5 : decide (c ≤ 70) = true := decide_eq_true (by omega)
    clear hr
    go_enter Tryd.func77, Tryd.ntmps77
    go_wp2_with fail
    go_ret
    first | exact ⟨rfl, rfl⟩ | exact ⟨ret_n (by omega), rfl⟩
  · have hr : hexi c = (-1) := by
      unfold hexi hexd
      rw [if_neg (by omega), if_neg (by omega), if_neg (by omega)]; rfl
    rw [hr]
    have d0 : decide (48 ≤ c) = true := decide_eq_true (by omega)
    have d1 : decide (c ≤ 57) = false := decide_eq_false (by omega)
    have d2 : decide (97 ≤ c) = false := decide_eq_false (by omega)
    have d3 : decide (c ≤ 102) = true := decide_eq_true (by omega)
    have d4 : decide (65 ≤ c) = false := decide_eq_false (by omega)
    have d5 : decide (c ≤ 70) = true := decide_eq_true (by omega)
    clear hr
    go_enter Tryd.func77, Tryd.ntmps77
    go_wp2_with fail
    go_ret
    first | exact ⟨rfl, rfl⟩ | exact ⟨ret_n (by omega), rfl⟩
  · have hr : hexi c = c - 55 := by
      unfold hexi hexd
      rw [if_neg (by omega), if_neg (by omega), if_pos (by omega)]; rfl
    rw [hr]
    have d0 : decide (48 ≤ c) = true := decide_eq_true (by omega)
    have d1 : decide (c ≤ 57) = false := decide_eq_false (by omega)
    have d2 : decide (97 ≤ c) = false := decide_eq_false (by omega)
    have d3 : decide (c ≤ 102) = true := decide_eq_true (by omega)
    have d4 : decide (65 ≤ c) = true := decide_eq_true (by omega)
    have d5 : decide (c ≤ 70) = true := decide_eq_true (by omega)
    clear hr
    go_enter Tryd.func77, Tryd.ntmps77
    go_wp2_with fail
    go_ret
    first | exact ⟨rfl, rfl⟩ | exact ⟨ret_n (by omega), rfl⟩
  · have hr : hexi c = (-1) := by
      unfold hexi hexd
      rw [if_neg (by omega), if_neg (by omega), if_neg (by omega)]; rfl
    rw [hr]
    have d0 : decide (48 ≤ c) = true := decide_eq_true (by omega)
    have d1 : decide (c ≤ 57) = false := decide_eq_false (by omega)
    have d2 : decide (97 ≤ c) = false := decide_eq_false (by omega)
    have d3 : decide (c ≤ 102) = true := decide_eq_true (by omega)
    have d4 : decide (65 ≤ c) = true := decide_eq_true (by omega)
    have d5 : decide (c ≤ 70) = false := decide_eq_false (by omega)
    clear hr
    go_enter Tryd.func77, Tryd.ntmps77
    go_wp2_with fail
    go_ret
    first | exact ⟨rfl, rfl⟩ | exact ⟨ret_n (by omega), rfl⟩
  · have hr : hexi c = c - 87 := by
      unfold hexi hexd
      rw [if_neg (by omega), if_pos (by omega)]; rfl
    rw [hr]
    have d0 : decide (48 ≤ c) = true := decide_eq_true (by omega)
    have d1 : decide (c ≤ 57) = false := decide_eq_false (by omega)
    have d2 : decide (97 ≤ c) = true := decide_eq_true (by omega)
    have d3 : decide (c ≤ 102) = true := decide_eq_true (by omega)
    have d4 : decide (65 ≤ c) = true := decide_eq_true (by omega)
    have d5 : decide (c ≤ 70) = false := decide_eq_false (by omega)
    clear hr
    go_enter Tryd.func77, Tryd.ntmps77
    go_wp2_with fail
    go_ret
    first | exact ⟨rfl, rfl⟩ | exact ⟨ret_n (by omega), rfl⟩
  · have hr : hexi c = (-1) := by
      unfold hexi hexd
      rw [if_neg (by omega), if_neg (by omega), if_neg (by omega)]; rfl
    rw [hr]
    have d0 : decide (48 ≤ c) = true := decide_eq_true (by omega)
    have d1 : decide (c ≤ 57) = false := decide_eq_false (by omega)
    have d2 : decide (97 ≤ c) = true := decide_eq_true (by omega)
    have d3 : decide (c ≤ 102) = false := decide_eq_false (by omega)
    have d4 : decide (65 ≤ c) = true := decide_eq_true (by omega)
    have d5 : decide (c ≤ 70) = false := decide_eq_false (by omega)
    clear hr
    go_enter Tryd.func77, Tryd.ntmps77
    go_wp2_with fail
    go_ret
    first | exact ⟨rfl, rfl⟩ | exact ⟨ret_n (by omega), rfl⟩
end Go.Proofs.YtocbbekciphjgaaDoor.Dq
/- QeE -/
/- Markers and empty lines in the reference (scMarker, scMarkerAt, scEmpty, scFeeds, scBreak): walked. -/
namespace Go.Proofs.YtocbbekciphjgaaDoor.Dq
open Go.RowKit Go.Proofs.YtocbbekciphjgaaDoor.Qd
set_option linter.unusedVariables false
set_option linter.unusedSimpArgs false
theorem drewN_add (w : World) (a b : Nat) : (w.drewN a).drewN b = w.drewN (a + b) := by
  unfold World.drewN
  simp [Nat.add_assoc]
set_option maxHeartbeats 4000000 in
set_option maxRecDepth 100000 in
theorem mk_any (b o n c : Nat) (x0 x1 x2 : Int) (w : World) (hn : 3 ≤ n) (h0 : w.cell? ⟨b, o, none⟩ = some (.int .i32 x0)) (h1 : w.cell? ⟨b, o + 1, none⟩ = some (.int .i32 x1)) (h2 : w.cell? ⟨b, o + 2, none⟩ = some (.int .i32 x2)) :
    Calls Tryd.prog 83 #[.slice (some ⟨b, o, none⟩) n c] w fun e w' => e = .returned (.bool ((x0 == 45 || x0 == 46) && x1 == x0 && x2 == x0)) ∧ ∃ m, w' = w.drewN m := by
  have j0 : decide (3 ≤ (n : Int)) = true := by simp; omega
  have j1 : (0 : Int) < (n : Int) := by omega
  have j2 : (1 : Int) < (n : Int) := by omega
  have j3 : (2 : Int) < (n : Int) := by omega
  obtain ⟨b1, e1⟩ : ∃ b, (x0 == 45) = b := ⟨_, rfl⟩
  obtain ⟨b2, e2⟩ : ∃ b, (x0 == 46) = b := ⟨_, rfl⟩
  obtain ⟨b3, e3⟩ : ∃ b, (x1 == x0) = b := ⟨_, rfl⟩
  obtain ⟨b4, e4⟩ : ∃ b, (x2 == x0) = b := ⟨_, rfl⟩
  rw [e1, e2, e3, e4]
  cases b1 <;> cases b2 <;> cases b3 <;> cases b4
  all_goals
    go_enter Tryd.func83, Tryd.ntmps83
    go_wp2_with fail
    go_quiet (fail)
    go_wp2_with fail
    go_ret
    exact ⟨rfl, _, rfl⟩
set_option maxHeartbeats 4000000 in
set_option maxRecDepth 100000 in
theorem mk_short (A : Option Addr) (n c : Nat) (w : World) (hn : n < 3) :
    Calls Tryd.prog 83 #[.slice A n c] w fun e w' => e = .returned (.bool false) ∧ ∃ m, w' = w.drewN m := by
  have j0 : decide (3 ≤ (n : Int)) = false := by simp; omega
  go_enter Tryd.func83, Tryd.ntmps83
  go_wp2_with fail
  go_quiet (fail)
  go_wp2_with fail
  go_ret
  exact ⟨rfl, _, rfl⟩
/-- Characters in memory. -/
def Zs (w : World) (b : Nat) (zs : List Int) : Prop := ∀ j, j < zs.length → w.cell? ⟨b, j, none⟩ = some (.int .i32 (zs.getD j 0))
theorem drop_at {zs : List Int} {i : Nat} (h : i < zs.length) : zs.drop i = zs.getD i 0 :: zs.drop (i + 1) := by
  rw [List.drop_eq_getElem_cons h, List.getD_eq_getElem?_getD, List.getElem?_eq_getElem h]
  rfl
theorem marker_short {zs : List Int} {i : Nat} (h : zs.length ≤ i + 3) : marker (zs.drop i) = false := by
  have hl : (zs.drop i).length ≤ 3 := by rw [List.length_drop]; omega
  match hz : zs.drop i, hl with
  | [], _ => rfl
  | [_], _ => rfl
  | [_, _], _ => rfl
  | [_, _, _], _ => rfl
  | _ :: _ :: _ :: _ :: l, h => simp at h
theorem marker_long {zs : List Int} {i : Nat} (h : i + 3 < zs.length) : marker (zs.drop i) = ((((zs.getD i 0 == 45 || zs.getD i 0 == 46) && zs.getD (i + 1) 0 == zs.getD i 0) && zs.getD (i + 2) 0 == zs.getD i 0) && (wh (zs.getD (i + 3) 0) || zs.getD (i + 3) 0 == 10)) := by
  rw [drop_at (by omega), drop_at (i := i + 1) (by omega), drop_at (i := i + 1 + 1) (by omega), drop_at (i := i + 1 + 1 + 1) (by omega)]
  rfl
set_option maxHeartbeats 4000000 in
set_option maxRecDepth 100000 in
theorem markat_any (zs : List Int) (b cp i : Nat) (w : World) (hz : Zs w b zs) (hi : i ≤ zs.length) (hcp : zs.length ≤ cp) (hm : zs.length ≤ 1000000 ∧ cp ≤ 9223372036854775807) :
    Calls Tryd.prog 74 #[.slice (some ⟨b, 0, none⟩) zs.length cp, .int .i64 i] w fun e w' => e = .returned (.bool (marker (zs.drop i))) ∧ ∃ m, w' = w.drewN m := by
  have j0 : (0 : Int) ≤ (i : Int) := by omega
  have j1 : (i : Int) ≤ (zs.length : Int) := by omega
  have j2 : (zs.length : Int) ≤ (cp : Int) := by omega
  obtain ⟨hm1, hm2⟩ := hm
  have j3 : (cp : Int) ≤ 9223372036854775807 := by omega
  have j3' : (zs.length : Int) ≤ 1000000 := by omega
  have j4 : i ≤ zs.length := hi
  have j5 : zs.length ≤ cp := hcp
  by_cases hs : i + 3 < zs.length
  · have h0 := hz i (by omega)
    have h1 := hz (i + 1) (by omega)
    have h2 := hz (i + 2) (by omega)
    have h3 := hz (i + 3) hs
    rw [marker_long hs]
    have hc := mk_any b i (zs.length - i) (cp - i) _ _ _ w (by omega) h0 h1 h2
    obtain ⟨q, hq⟩ : ∃ q, ((zs.getD i 0 == 45 || zs.getD i 0 == 46) && zs.getD (i + 1) 0 == zs.getD i 0 && zs.getD (i + 2) 0 == zs.getD i 0) = q := ⟨_, rfl⟩
    rw [hq] at hc ⊢
    obtain ⟨x3, HX3⟩ : ∃ x3, Hid (zs.getD (i + 3) 0 = x3) := ⟨_, rfl⟩
    rw [HX3.out] at h3 ⊢
    have j6 : (i : Int) + 3 < (zs.length : Int) := by omega
    have j7 : decide ((i : Int) + 3 < (zs.length : Int)) = true := by simp; omega
    have j8 : ¬ cp = i := by omega
    have j9 : i ≤ cp := by omega
    have hw := fun W => white_any x3 W
    obtain ⟨q1, hq1⟩ : ∃ q, wh x3 = q := ⟨_, rfl⟩
    obtain ⟨q2, hq2⟩ : ∃ q, (x3 == 10) = q := ⟨_, rfl⟩
    rw [hq1, hq2]
    rw [hq1] at hw
    have HC := Lib.hid hc
    have HW := Lib.hid hw
    clear hz h0 h1 h2 hc hw hq hq1
    cases q
    · go_enter Tryd.func74, Tryd.ntmps74
      go_wp2_with fail
      refine HC.out.mono ?_
      rintro e w1 ⟨rfl, m, rfl⟩
      go_wp2_with fail
      go_ret
      exact ⟨rfl, _, rfl⟩
    · cases q1 <;> cases q2
      all_goals
        go_enter Tryd.func74, Tryd.ntmps74
        go_wp2_with fail
        refine HC.out.mono ?_
        rintro e w1 ⟨rfl, m, rfl⟩
        go_wp2_with fail
        refine (HW.out _).mono ?_
        rintro e w2 ⟨rfl, rfl⟩
        go_wp2_with fail
        go_ret
        exact ⟨rfl, _, rfl⟩
  · rw [marker_short (by omega)]
    have j7 : decide ((i : Int) + 3 < (zs.length : Int)) = false := by simp; omega
    by_cases hci : cp = i
    · obtain rfl : i = zs.length := by omega
      subst hci
      have hc := mk_short (some ⟨b, 0, none⟩) 0 0 w (by omega)
      obtain ⟨n, HN⟩ : ∃ n, Hid (zs.length = n) := ⟨_, rfl⟩
      rw [HN.out] at j0 j1 j2 j3 j4 j5 j7 hm1 hm2 j3' ⊢
      have HC := Lib.hid hc
      clear hz hc
      go_enter Tryd.func74, Tryd.ntmps74
      go_wp2_with fail
      refine HC.out.mono ?_
      rintro e w1 ⟨rfl, m, rfl⟩
      go_wp2_with fail
      go_ret
      exact ⟨rfl, _, rfl⟩
    · have j8 : ¬ cp = i := hci
      have j9 : i ≤ cp := by omega
      have hc : ∃ q, Calls Tryd.prog 83 #[.slice (some ⟨b, i, none⟩) (zs.length - i) (cp - i)] w fun e w' => e = .returned (.bool q) ∧ ∃ m, w' = w.drewN m := by
        by_cases hl : zs.length - i < 3
        · exact ⟨_, mk_short _ _ _ w hl⟩
        · exact ⟨_, mk_any b i _ _ _ _ _ w (by omega) (hz i (by omega)) (hz (i + 1) (by omega)) (hz (i + 2) (by omega))⟩
      obtain ⟨q, hc⟩ := hc
      have HC := Lib.hid hc
      clear hz hc
      cases q
      all_goals
        go_enter Tryd.func74, Tryd.ntmps74
        go_wp2_with fail
        refine HC.out.mono ?_
        rintro e w1 ⟨rfl, m, rfl⟩
        go_wp2_with fail
        go_ret
        exact ⟨rfl, _, rfl⟩

theorem Emp.more' {l r at' : List Int} {n : Nat} (h1 : marker l = false) (h2 : skipW l = 10 :: r) (h3 : Emp r n at') : Emp l (n + 1) at' := .more h1 h2 h3
set_option maxHeartbeats 8000000 in
set_option maxRecDepth 100000 in
/-- Empty lines are gone over (scEmpty). -/
theorem empty_any (zs : List Int) (b cp i : Nat) (w : World) (hz : Zs w b zs) (hi : i ≤ zs.length) (hcp : zs.length ≤ cp) (hm : zs.length ≤ 1000000 ∧ cp ≤ 9223372036854775807) :
    Calls Tryd.prog 44 #[.slice (some ⟨b, 0, none⟩) zs.length cp, .int .i64 i] w fun e w' => (e = .returned (.tuple #[.int .i64 0, .int .i64 0, .bool false]) ∨ ∃ n j : Nat, e = .returned (.tuple #[.int .i64 n, .int .i64 j, .bool true]) ∧ i ≤ j ∧ j ≤ zs.length ∧ n ≤ zs.length ∧ Emp (zs.drop i) n (zs.drop j)) ∧ ∃ m, w' = w.drewN m := by
  have HZ := Lib.hid hz
  have j2 : (zs.length : Int) ≤ (cp : Int) := by omega
  obtain ⟨hm1, hm2⟩ := hm
  have j3 : (cp : Int) ≤ 9223372036854775807 := by omega
  have j3' : (zs.length : Int) ≤ 1000000 := by omega
  clear hz
  go_enter Tryd.func44, Tryd.ntmps44
  go_wp2_with fail
  go_loopg [1, 4] (zs.length + 1 - i) (fun g s1 s4 wr => ∃ m, wr = w.drewN m ∧ ∃ i1 n : Nat, g = zs.length + 1 - i1 ∧ i ≤ i1 ∧ i1 ≤ zs.length ∧ n ≤ i1 ∧ s1 = .int .i64 (i1 : Nat) ∧ s4 = .int .i64 (n : Nat) ∧ ∀ q at', Emp (zs.drop i1) q at' → Emp (zs.drop i) (n + q) at')
  case atStart => exact ⟨0, rfl, i, 0, rfl, Nat.le_refl _, hi, Nat.zero_le _, rfl, rfl, fun q at' h => by rw [Nat.zero_add]; exact h⟩
  obtain ⟨m, hwr, i1, n, hg, h1, h2, hn, rfl, rfl, hrel⟩ := hrel
  obtain ⟨wo, hwo⟩ : ∃ wo : World, wo = wr := ⟨_, rfl⟩
  rw [← hwo] at hwr ⊢
  clear hwo wr
  have HG := Lib.hid hg
  have HREL := Lib.hid hrel
  have hzr : Zs wo b zs := by rw [hwr]; exact HZ.out
  have HZR := Lib.hid hzr
  have HWR := Lib.hid hwr
  have hma := markat_any zs b cp i1 wo hzr h2 hcp ⟨hm1, hm2⟩
  obtain ⟨mk, hmk⟩ : ∃ q, marker (zs.drop i1) = q := ⟨_, rfl⟩
  rw [hmk] at hma
  have HMA := Lib.hid hma
  have HMK := Lib.hid hmk
  clear hg hrel hzr hwr hma hmk
  cases mk
  · go_wp2_with fail
    refine HMA.out.mono ?_
    rintro e wm ⟨rfl, m1, hwm⟩
    have HWM := Lib.hid hwm
    have hzm : Zs wm b zs := by rw [hwm]; exact HZR.out
    have HZM := Lib.hid hzm
    clear hwm hzm HMA
    go_wp2_with fail
    go_loopg [1] (zs.length - i1) (fun g s1 wx => wx = wm ∧ ∃ i2 : Nat, g = zs.length - i2 ∧ i1 ≤ i2 ∧ i2 ≤ zs.length ∧ s1 = .int .i64 (i2 : Nat) ∧ skipW (zs.drop i1) = skipW (zs.drop i2))
    case atStart => exact ⟨rfl, i1, rfl, Nat.le_refl _, h2, rfl, rfl⟩
    obtain ⟨rfl, i2, hg2, h3, h4, rfl, hsk⟩ := hrel
    have HG2 := Lib.hid hg2
    have HSK := Lib.hid hsk
    clear hg2 hsk
    by_cases hlt : i2 < zs.length
    · have hx := HZM.out i2 hlt
      obtain ⟨x, HX⟩ : ∃ x, Hid (zs.getD i2 0 = x) := ⟨_, rfl⟩
      rw [HX.out] at hx
      have hd : Hid (zs.drop i2 = x :: zs.drop (i2 + 1)) := Lib.hid (by rw [drop_at hlt, HX.out])
      have j5 : (i2 : Int) < (zs.length : Int) := by omega
      have j6 : (0 : Int) ≤ (i2 : Int) := by omega
      have j7 : ((i2 : Int) == (zs.length : Int)) = false := by rw [beq_eq_false_iff_ne]; omega
      have j8 : (i2 == zs.length) = false := by rw [beq_eq_false_iff_ne]; omega
      have hw := fun W => white_any x W
      obtain ⟨q1, hq1⟩ : ∃ q, wh x = q := ⟨_, rfl⟩
      rw [hq1] at hw
      have HW := Lib.hid hw
      have HQ1 := Lib.hid hq1
      clear hw hq1
      cases q1
      · obtain ⟨q2, hq2⟩ : ∃ q, (x != 10) = q := ⟨_, rfl⟩
        have HQ2 := Lib.hid hq2
        cases q2
        · go_wp2_with fail
          refine (HW.out _).mono ?_
          rintro e w2 ⟨rfl, rfl⟩
          go_wp2_with fail
          have hx10 : x = 10 := by
            have := HQ2.out
            simpa using this
          go_roundg (zs.length + 1 - (i2 + 1))
          case measure => have := HG.out; omega
          case rel =>
            refine ⟨m + m1, by rw [HWM.out, HWR.out, drewN_add], i2 + 1, n + 1, rfl, by omega, by omega, by omega, rfl, rfl, fun q at' h => ?_⟩
            have hs : skipW (zs.drop i1) = 10 :: zs.drop (i2 + 1) := by rw [HSK.out, hd.out, skipW_no HQ1.out, hx10]
            have := HREL.out (q + 1) at' (.more HMK.out hs h)
            rw [show n + (q + 1) = n + 1 + q by omega] at this
            exact this
        · go_wp2_with fail
          refine (HW.out _).mono ?_
          rintro e w2 ⟨rfl, rfl⟩
          go_wp2_with fail
          have hx10 : x ≠ 10 := by
            have := HQ2.out
            simpa using this
          refine bodyPost_ret (by simp [results, Tryd.results44, go_sem]; try rfl) rfl ?_
          refine ⟨.inr ⟨n, i2, rfl, by omega, by omega, by omega, ?_⟩, m + m1, by rw [HWM.out, HWR.out, drewN_add]⟩
          have hs : skipW (zs.drop i1) = zs.drop i2 := by rw [HSK.out, hd.out, skipW_no HQ1.out]
          have := HREL.out 0 (skipW (zs.drop i1)) (.here HMK.out (fun r e => by rw [hs, hd.out] at e; exact hx10 (List.cons.inj e).1))
          rw [hs] at this
          exact this
      · go_wp2_with fail
        refine (HW.out _).mono ?_
        rintro e w2 ⟨rfl, rfl⟩
        go_wp2_with fail
        go_roundg (zs.length - (i2 + 1))
        case measure => have := HG2.out; omega
        case rel => exact ⟨rfl, i2 + 1, rfl, by omega, by omega, rfl, by rw [HSK.out, hd.out, skipW_wh HQ1.out]⟩
    · obtain rfl : i2 = zs.length := by omega
      have j5 : ¬ ((zs.length : Int) < (zs.length : Int)) := by omega
      go_wp2_with fail
      refine bodyPost_ret (by simp [results, Tryd.results44, go_sem]; try rfl) rfl ?_
      refine ⟨.inr ⟨n, zs.length, rfl, by omega, by omega, by omega, ?_⟩, m + m1, by rw [HWM.out, HWR.out, drewN_add]⟩
      have hs : skipW (zs.drop i1) = [] := by rw [HSK.out, List.drop_of_length_le (Nat.le_refl _)]; rfl
      have := HREL.out 0 (skipW (zs.drop i1)) (.here HMK.out (fun r e => by rw [hs] at e; cases e))
      rw [hs, ← List.drop_of_length_le (l := zs) (Nat.le_refl _)] at this
      exact this
  · go_wp2_with fail
    refine HMA.out.mono ?_
    rintro e wm ⟨rfl, m1, hwm⟩
    have HWM := Lib.hid hwm
    clear hwm
    go_wp2_with fail
    refine bodyPost_ret (by simp [results, Tryd.results44, go_sem]; try rfl) rfl ?_
    exact ⟨.inl rfl, m + m1, by rw [HWM.out, HWR.out, drewN_add]⟩
end Go.Proofs.YtocbbekciphjgaaDoor.Dq
/- Nd -/
/- laws.ndName: at most 8 letters of a name out of a text, or x: the walk. For texts of at most 2^31 - 1 bytes. -/
namespace Go.Proofs.YtocbbekciphjgaaDoor.Nd
open Go.RowKit
set_option linter.unusedVariables false
def al (x : Int) : Bool := decide ((48 ≤ x ∧ x ≤ 57) ∨ (65 ≤ x ∧ x ≤ 90) ∨ (97 ≤ x ∧ x ≤ 122) ∨ x = 95 ∨ x = 45)
def bt (s : ByteArray) (i : Nat) : Int := if h : i < s.size then (s[i].toNat : Int) else 0
theorem bt_of (s : ByteArray) (i : Nat) (h : i < s.size) : bt s i = (s[i].toNat : Int) := by unfold bt; rw [dif_pos h]
/-- The letters of the first k bytes, at most 8. -/
def got (s : ByteArray) : Nat → List Int
  | 0 => []
  | k + 1 => if (got s k).length < 8 ∧ al (bt s k) = true then got s k ++ [bt s k] else got s k
theorem got_len (s : ByteArray) : ∀ k, (got s k).length ≤ 8 := by
  intro k
  induction k with
  | zero => simp [got]
  | succ k ih =>
    simp only [got]
    split
    · rename_i h; simp; omega
    · exact ih
theorem got_full (s : ByteArray) (k : Nat) (h : 8 ≤ (got s k).length) : ∀ d, got s (k + d) = got s k := by
  intro d
  induction d with
  | zero => rfl
  | succ d ih =>
    rw [← Nat.add_assoc]
    simp only [got]
    rw [ih, if_neg (by omega)]
theorem got_range (s : ByteArray) : ∀ k, ∀ x ∈ got s k, 0 ≤ x ∧ x ≤ 255 ∧ al x = true := by
  intro k
  induction k with
  | zero => simp [got]
  | succ k ih =>
    simp only [got]
    split
    · rename_i h
      intro x hx
      rcases List.mem_append.1 hx with hx | hx
      · exact ih x hx
      · simp at hx
        subst hx
        have h2 := h.2
        refine ⟨?_, ?_, h2⟩
        · unfold al at h2; rw [decide_eq_true_eq] at h2; omega
        · unfold al at h2; rw [decide_eq_true_eq] at h2; omega
    · exact ih
/-- The name of a text. -/
def nm (s : ByteArray) : ByteArray := if got s s.size = [] then ⟨#[120]⟩ else strOfNums (got s s.size)
theorem own_slice {w : World} {base n : Nat} {e : TypeId} {v : Value} {xs : List Value} (h : w.ownsRow base e 1 v n xs) : ∃ A cap, v = .slice A n cap := by
  obtain ⟨_, ⟨rfl, rfl⟩ | ⟨g, cap, cur, rfl, _⟩⟩ := h
  · exact ⟨none, 0, rfl⟩
  · exact ⟨_, cap, rfl⟩
theorem infoE : (Tryd.prog.info? 5).map (fun i => (i.zero, i.size, i.bytes)) = some (some (.int .u8 0), 1, 1) := by kernel_rfl
/-- One value more behind a row of the call's own. -/
theorem wpList_push {ops : Array Oper} {rest : List Oper} {o : Oper} {a : Act} {w : World} {Q : Exit → Act → World → Prop} (hgd : o.guard = none) (s x : Operand)
    (ho : o.op = .call { callee := .builtin .append, args := #[s, x], argTypes := #[22, 22] }) (base n : Nat) (v u : Value) (xs : List Value) (hs : a.eval s = v) (hown : w.ownsRow base 5 1 v n xs)
    (b c : Nat) (hx : a.eval x = .slice (some ⟨b, 0, none⟩) 1 c) (hu : w.cell? ⟨b, 0, none⟩ = some u) (h1 : u.oneCell' = true) (hn : n + 1 ≤ 140737488355328) (hbase : base ≤ w.heap.size)
    (h : ∀ v' w', w'.ownsRow base 5 1 v' (n + 1) (xs ++ [u]) → w.grownBy w' v.ownBlock → wpList Tryd.prog ops Q rest (a.put o.dst v') w') : wpList Tryd.prog ops Q (o :: rest) a w := by
  obtain ⟨i0, hi, hz0, hz1, hz2⟩ := info_parts infoE
  refine wpList_append_own w hgd s x 22 ho base 5 i0 (.int .u8 0) 1 1 Tryd.underlying22 hi hz0 hz1 hz2 rfl (by decide) v n xs hs hown ⟨b, 0, none⟩ 1 c [u] hx rfl ?_ ?_ ?_ ?_ hbase (fun v' w' a b _ => h v' w' a b)
  · intro j y hy
    match j, hy with
    | 0, hy => simp at hy; subst hy; exact hu
    | j + 1, hy => simp at hy
  · intro y hy
    simp at hy
    subst hy
    exact h1
  · unfold maxLen; omega
  · omega
theorem conv_own {w0 w : World} {A : Option Addr} {n cap : Nat} {l : List Int} (h : w.ownsRow w0.heap.size 5 1 (.slice A n cap) l.length (l.map (Value.int .u8))) (hz : ¬ l.length = 0) :
    (convert 22 9 (.slice A n cap)).run Tryd.prog w = .ok (.string (strOfNums l)) w := by
  have hcells := fun g hg => World.ownsRow.cells h (g := g) hg
  obtain ⟨_, ⟨_, h0⟩ | ⟨g, cap', cur, hv, _⟩⟩ := h
  · omega
  simp only [Value.slice.injEq] at hv
  obtain ⟨rfl, rfl, rfl⟩ := hv
  refine run_convert_bytes_arg w 22 5 Tryd.underlying22 Tryd.underlying5 g 0 l.length cap l rfl ?_ 9 Tryd.underlying9
  intro i hi
  have h := hcells g rfl i (.int .u8 (l.getD i 0)) (by rw [List.getElem?_map, List.getD_eq_getElem?_getD, List.getElem?_eq_getElem hi]; rfl)
  have e : ({ block := g, off := 0 } : Addr).add i = ⟨g, 0 + i, none⟩ := by
    unfold Addr.add
    split
    · rename_i h; subst h; rfl
    · rfl
  rw [e] at h
  exact h
theorem ret_str {a b : ByteArray} (h : a = b) : Ending.returned (.string a) = .returned (.string b) := by rw [h]
theorem empty_list : (⟨#[]⟩ : ByteArray).toList = [] := by rw [Lib.toList_data]
theorem nm_x {s : ByteArray} (h : got s s.size = []) : nm s = ⟨#[120]⟩ := by unfold nm; rw [if_pos h]
theorem nm_ne {s : ByteArray} (h : got s s.size ≠ []) : nm s = strOfNums (got s s.size) := by unfold nm; rw [if_neg h]
set_option maxHeartbeats 2000000 in
set_option maxRecDepth 100000 in
theorem nd_any (s : ByteArray) (w : World) (hs : s.size ≤ 2147483647) : Calls Tryd.prog 16 #[.string s] w fun e w' => e = .returned (.string (nm s)) ∧ Below w.heap.size w w' := by
  obtain ⟨i0, hi, hz0, hz1, hz2⟩ := info_parts infoE
  go_enter Tryd.func16, Tryd.ntmps16
  try simp only [List.append]
  go_wp2_with fail
  go_loopw [3, 4] (fun v i wr => ∃ k : Nat, k ≤ s.size ∧ i = .int .i64 k ∧ wr.ownsRow w.heap.size 5 1 v (got s k).length ((got s k).map (Value.int .u8)) ∧ Below w.heap.size w wr) (fun _ i _ => s.size - (intOf i).toNat)
  case atStart => exact ⟨0, Nat.zero_le _, rfl, ⟨rfl, .inl ⟨rfl, rfl⟩⟩, Below.refl _ _⟩
  case round =>
    obtain ⟨k, hk, rfl, hown, hbel⟩ := hrel
    obtain ⟨A, cap, rfl⟩ := own_slice hown
    have hlen := got_len s k
    have HO := Lib.hid hown
    have HB := Lib.hid hbel
    clear hown hbel
    by_cases hks : k < s.size
    · by_cases h8 : (got s k).length < 8
      · have hb := bt_of s k hks
        have hx1 := s[k].toNat_lt
        by_cases hal : al (bt s k) = true
        · have hnext : got s (k + 1) = got s k ++ [(s[k].toNat : Int)] := by simp only [got]; rw [if_pos ⟨h8, hal⟩, hb]
          have HN := Lib.hid hnext
          have hcls : (97 ≤ (s[k].toNat : Int) ∧ (s[k].toNat : Int) ≤ 122) ∨ (65 ≤ (s[k].toNat : Int) ∧ (s[k].toNat : Int) ≤ 90) ∨ (48 ≤ (s[k].toNat : Int) ∧ (s[k].toNat : Int) ≤ 57) ∨ (95 ≤ (s[k].toNat : Int) ∧ (s[k].toNat : Int) ≤ 95) ∨ (45 ≤ (s[k].toNat : Int) ∧ (s[k].toNat : Int) ≤ 45) := by
            rw [hb] at hal
            unfold al at hal
            rw [decide_eq_true_eq] at hal
            omega
          clear hal hb hnext
          rcases hcls with ⟨c1, c2⟩ | ⟨c1, c2⟩ | ⟨c1, c2⟩ | ⟨c1, c2⟩ | ⟨c1, c2⟩
          all_goals
            first
              | have e95 : ((s[k].toNat : Int) == 95) = true := by simp; omega
              | have e95 : ((s[k].toNat : Int) == 95) = false := by simp; omega
            first
              | have e45 : ((s[k].toNat : Int) == 45) = true := by simp; omega
              | have e45 : ((s[k].toNat : Int) == 45) = false := by simp; omega
            go_wp2_with ((at_builtin; refine wpList_push rfl (.tmp 50) (.tmp 52) rfl w.heap.size (got s k).length _ (.int .u8 (s[k].toNat : Int)) _ rfl (HO.out.alloc _) wr.heap.size 1 rfl (by simp [World.cell?_alloc_new]) rfl (by omega) (by have := HB.out.size; simp; omega) ?_))
            intro v' w' hown' hg'
            have hb' : Below w.heap.size w w' := (HB.out.alloc HB.out.size _).grown hg' (by have := HB.out.size; simp; omega) (fun k hk => (HO.out.lt k hk).1)
            have HO' := Lib.hid hown'
            have HB' := Lib.hid hb'
            clear hown' hg' hb'
            go_wp2_with fail
            go_roundw
            case rel => exact ⟨k + 1, by omega, by go_num, by rw [HN.out]; simpa using HO'.out, HB'.out⟩
            case measure => simp [intOf]; omega
        · have hnext : got s (k + 1) = got s k := by simp only [got]; rw [if_neg (fun h => hal h.2)]
          have HN := Lib.hid hnext
          have hcls : (s[k].toNat : Int) ≤ 44 ∨ (46 ≤ (s[k].toNat : Int) ∧ (s[k].toNat : Int) ≤ 47) ∨ (58 ≤ (s[k].toNat : Int) ∧ (s[k].toNat : Int) ≤ 64) ∨ (91 ≤ (s[k].toNat : Int) ∧ (s[k].toNat : Int) ≤ 94) ∨ (96 ≤ (s[k].toNat : Int) ∧ (s[k].toNat : Int) ≤ 96) ∨ 123 ≤ (s[k].toNat : Int) := by
            rw [hb] at hal
            unfold al at hal
            rw [decide_eq_true_eq] at hal
            omega
          have e95 : ((s[k].toNat : Int) == 95) = false := by simp; omega
          have e45 : ((s[k].toNat : Int) == 45) = false := by simp; omega
          clear hal hb hnext
          rcases hcls with c1 | ⟨c1, c2⟩ | ⟨c1, c2⟩ | ⟨c1, c2⟩ | ⟨c1, c2⟩ | c1
          all_goals
            go_wp2_with fail
            go_roundw
            case rel => exact ⟨k + 1, by omega, by go_num, by rw [HN.out]; exact HO.out, HB.out⟩
            case measure => simp [intOf]; omega
      · have hfull := got_full s k (by omega) (s.size - k)
        rw [show k + (s.size - k) = s.size by omega] at hfull
        have HF := Lib.hid hfull
        clear hfull
        by_cases hz : (got s k).length = 0
        · have hzb : (((got s k).length : Int) == 0) = true := by simpa using hz
          have hnil : got s s.size = [] := by rw [HF.out]; exact List.eq_nil_of_length_eq_zero hz
          have HN := Lib.hid (nm_x hnil)
          clear hnil hz
          go_wp2_with fail
          go_ret
          exact ⟨ret_str (by rw [HN.out]), HB.out⟩
        · have hzb : (((got s k).length : Int) == 0) = false := by simpa using hz
          have hcv := conv_own HO.out hz
          have hnil : got s s.size ≠ [] := by rw [HF.out]; exact fun h => hz (by rw [h]; rfl)
          have HN := Lib.hid (nm_ne hnil)
          clear hnil hz
          go_wp2_with fail
          go_ret
          exact ⟨ret_str (by rw [HN.out, HF.out]), HB.out⟩
    · have hfull : got s s.size = got s k := by rw [show k = s.size by omega]
      have HF := Lib.hid hfull
      clear hfull
      by_cases hz : (got s k).length = 0
      · have hzb : (((got s k).length : Int) == 0) = true := by simpa using hz
        have hnil : got s s.size = [] := by rw [HF.out]; exact List.eq_nil_of_length_eq_zero hz
        have HN := Lib.hid (nm_x hnil)
        clear hnil hz
        go_wp2_with fail
        go_ret
        exact ⟨ret_str (by rw [HN.out]), HB.out⟩
      · have hzb : (((got s k).length : Int) == 0) = false := by simpa using hz
        have hcv := conv_own HO.out hz
        have hnil : got s s.size ≠ [] := by rw [HF.out]; exact fun h => hz (by rw [h]; rfl)
        have HN := Lib.hid (nm_ne hnil)
        clear hnil hz
        go_wp2_with fail
        go_ret
        exact ⟨ret_str (by rw [HN.out, HF.out]), HB.out⟩
end Go.Proofs.YtocbbekciphjgaaDoor.Nd
