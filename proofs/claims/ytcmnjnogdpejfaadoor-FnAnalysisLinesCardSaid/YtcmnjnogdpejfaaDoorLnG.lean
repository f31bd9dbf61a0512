/- The loop's stages: width, white behind it, what it is, and white ahead of the next one. Printed by genLnE.py. -/
import Derived.Test.YtcmnjnogdpejfaaDoorLnE
namespace Go.Proofs.YtcmnjnogdpejfaaDoor.Ln
open Go.RowKit
set_option linter.unusedVariables false
set_option linter.unusedSimpArgs false
set_option maxHeartbeats 32000000 in
set_option maxRecDepth 100000 in
theorem ca {p b n cp i : Nat} {wv : Value} {lb : Bool} {a : Act} {w : World} {K : Act → World → Prop} {Q : Exit → Act → World → Prop} (hI : In p b n cp i wv lb a) (hlt : i < n) (hm : n ≤ 70000) (x : Int) (hx : w.cell? ⟨b, i, none⟩ = some (.int .u8 x)) (hx0 : 0 ≤ x) (hx1 : x ≤ 255) (d : Nat) (hd : Wd.wd x = (d : Int)) (hd4 : d ≤ 4)
    (hK : ∀ a', In p b n cp i (.int .i64 (d : Nat)) lb a' → K a' w) : cA.wp Tryd.prog (Exit.then K Q) a w := by
  have j0 : (0 : Int) ≤ (i : Int) := by omega
  have j1 : (i : Int) < (n : Int) := by omega
  have HW := Lib.hid (Wd.wd_any x hx0 hx1 w)
  rw [hd] at HW
  obtain ⟨v5, e5⟩ := hI.f5
  obtain ⟨v6, e6⟩ := hI.f6
  obtain ⟨v8, e8⟩ := hI.f8
  obtain ⟨v9, e9⟩ := hI.f9
  obtain ⟨v10, e10⟩ := hI.f10
  obtain ⟨v11, e11⟩ := hI.f11
  obtain ⟨v12, e12⟩ := hI.f12
  obtain ⟨v13, e13⟩ := hI.f13
  obtain ⟨v14, e14⟩ := hI.f14
  obtain ⟨v15, e15⟩ := hI.f15
  obtain ⟨v16, e16⟩ := hI.f16
  obtain ⟨v17, e17⟩ := hI.f17
  obtain ⟨v18, e18⟩ := hI.f18
  obtain ⟨v19, e19⟩ := hI.f19
  rw [lit321 a hI.size hI.defers, hI.s0, hI.s1, hI.s7, hI.s20, hI.s21, e5, e6, e8, e9, e10, e11, e12, e13, e14, e15, e16, e17, e18, e19]
  clear e5 e6 e8 e9 e10 e11 e12 e13 e14 e15 e16 e17 e18 e19
  have HKK := Lib.hid hK
  clear hK hI
  conv => arg 2; whnf
  try simp only [List.append]
  go_wp2_with fail
  refine HW.out.mono ?_
  rintro e w1 ⟨rfl, rfl⟩
  go_wp2_with fail
  exact HKK.out _ ⟨rfl, rfl, rfl, rfl, rfl, rfl, rfl, ⟨_, rfl⟩, ⟨_, rfl⟩, ⟨_, rfl⟩, ⟨_, rfl⟩, ⟨_, rfl⟩, ⟨_, rfl⟩, ⟨_, rfl⟩, ⟨_, rfl⟩, ⟨_, rfl⟩, ⟨_, rfl⟩, ⟨_, rfl⟩, ⟨_, rfl⟩, ⟨_, rfl⟩, ⟨_, rfl⟩⟩
set_option maxHeartbeats 32000000 in
set_option maxRecDepth 100000 in
theorem cf {p b n cp i : Nat} {d : Nat} {lb : Bool} {a : Act} {w : World} {K : Act → World → Prop} {Q : Exit → Act → World → Prop} (hI : In p b n cp i (.int .i64 (d : Nat)) lb a) (hlt : i < n) (hm : n ≤ 70000) (hd4 : d ≤ 4) (hb : i + d < n → ∃ y, 0 ≤ y ∧ y ≤ 255 ∧ w.cell? ⟨b, i + d, none⟩ = some (.int .u8 y))
    (hK : ∀ a', In p b n cp i (.int .i64 (d : Nat)) lb a' → K a' w) : cF.wp Tryd.prog (Exit.then K Q) a w := by
  by_cases hq : i + d < n
  · obtain ⟨y, y0, y1, hy⟩ := hb hq
    have hc := blk_any b (i + d) n cp y hq hm y0 y1 w hy
    rw [Int.natCast_add] at hc
    have j0 : (i : Int) + (d : Int) < (n : Int) := by omega
    have d0 : decide ((n : Int) ≤ (i : Int) + (d : Int)) = false := decide_eq_false (by omega)
    have HC := Lib.hid hc
    clear hc hb
    obtain ⟨v5, e5⟩ := hI.f5
    obtain ⟨v6, e6⟩ := hI.f6
    obtain ⟨v8, e8⟩ := hI.f8
    obtain ⟨v9, e9⟩ := hI.f9
    obtain ⟨v10, e10⟩ := hI.f10
    obtain ⟨v11, e11⟩ := hI.f11
    obtain ⟨v12, e12⟩ := hI.f12
    obtain ⟨v13, e13⟩ := hI.f13
    obtain ⟨v14, e14⟩ := hI.f14
    obtain ⟨v15, e15⟩ := hI.f15
    obtain ⟨v16, e16⟩ := hI.f16
    obtain ⟨v17, e17⟩ := hI.f17
    obtain ⟨v18, e18⟩ := hI.f18
    obtain ⟨v19, e19⟩ := hI.f19
    rw [lit321 a hI.size hI.defers, hI.s0, hI.s1, hI.s7, hI.s20, hI.s21, e5, e6, e8, e9, e10, e11, e12, e13, e14, e15, e16, e17, e18, e19]
    clear e5 e6 e8 e9 e10 e11 e12 e13 e14 e15 e16 e17 e18 e19
    have HKK := Lib.hid hK
    clear hK hI
    conv => arg 2; whnf
    try simp only [List.append]
    go_wp2_with fail
    refine HC.out.mono ?_
    rintro e w1 ⟨⟨r, rfl⟩, rfl⟩
    go_wp2_with fail
    exact HKK.out _ ⟨rfl, rfl, rfl, rfl, rfl, rfl, rfl, ⟨_, rfl⟩, ⟨_, rfl⟩, ⟨_, rfl⟩, ⟨_, rfl⟩, ⟨_, rfl⟩, ⟨_, rfl⟩, ⟨_, rfl⟩, ⟨_, rfl⟩, ⟨_, rfl⟩, ⟨_, rfl⟩, ⟨_, rfl⟩, ⟨_, rfl⟩, ⟨_, rfl⟩, ⟨_, rfl⟩⟩
  · have d0 : decide ((n : Int) ≤ (i : Int) + (d : Int)) = true := decide_eq_true (by omega)
    have j0 : (n : Int) ≤ (i : Int) + (d : Int) := by omega
    clear hb
    obtain ⟨v5, e5⟩ := hI.f5
    obtain ⟨v6, e6⟩ := hI.f6
    obtain ⟨v8, e8⟩ := hI.f8
    obtain ⟨v9, e9⟩ := hI.f9
    obtain ⟨v10, e10⟩ := hI.f10
    obtain ⟨v11, e11⟩ := hI.f11
    obtain ⟨v12, e12⟩ := hI.f12
    obtain ⟨v13, e13⟩ := hI.f13
    obtain ⟨v14, e14⟩ := hI.f14
    obtain ⟨v15, e15⟩ := hI.f15
    obtain ⟨v16, e16⟩ := hI.f16
    obtain ⟨v17, e17⟩ := hI.f17
    obtain ⟨v18, e18⟩ := hI.f18
    obtain ⟨v19, e19⟩ := hI.f19
    rw [lit321 a hI.size hI.defers, hI.s0, hI.s1, hI.s7, hI.s20, hI.s21, e5, e6, e8, e9, e10, e11, e12, e13, e14, e15, e16, e17, e18, e19]
    clear e5 e6 e8 e9 e10 e11 e12 e13 e14 e15 e16 e17 e18 e19
    have HKK := Lib.hid hK
    clear hK hI
    conv => arg 2; whnf
    try simp only [List.append]
    go_wp2_with fail
    exact HKK.out _ ⟨rfl, rfl, rfl, rfl, rfl, rfl, rfl, ⟨_, rfl⟩, ⟨_, rfl⟩, ⟨_, rfl⟩, ⟨_, rfl⟩, ⟨_, rfl⟩, ⟨_, rfl⟩, ⟨_, rfl⟩, ⟨_, rfl⟩, ⟨_, rfl⟩, ⟨_, rfl⟩, ⟨_, rfl⟩, ⟨_, rfl⟩, ⟨_, rfl⟩, ⟨_, rfl⟩⟩
set_option maxHeartbeats 32000000 in
set_option maxRecDepth 100000 in
theorem cy {p b n cp i : Nat} {wv : Value} {lb : Bool} {a : Act} {w : World} {K : Act → World → Prop} {Q : Exit → Act → World → Prop} (hI : In p b n cp i wv lb a) (hlt : i < n) (hm : n ≤ 70000) (x : Int) (hx : w.cell? ⟨b, i, none⟩ = some (.int .u8 x)) (y z : Int) (hk : Okc x y z) (hl : Lay w b i n x y z) (u : Bool) (hu : w.cell? ⟨p, 13, none⟩ = some (.bool u))
    (hK : ∀ a', In p b n cp i wv lb a' → K a' w) : cY.wp Tryd.prog (Exit.then K Q) a w := by
  have j0 : (0 : Int) ≤ (i : Int) := by omega
  have j1 : (i : Int) < (n : Int) := by omega
  have HP := Lib.hid (prn_any b i n cp x y z hm hk w hl)
  have hk1 := hk.x1
  have HA := Lib.hid (asc_any b i n cp x (by omega) hm hk.x0 (by omega) w hx)
  clear hk hl hk1
  obtain ⟨v5, e5⟩ := hI.f5
  obtain ⟨v6, e6⟩ := hI.f6
  obtain ⟨v8, e8⟩ := hI.f8
  obtain ⟨v9, e9⟩ := hI.f9
  obtain ⟨v10, e10⟩ := hI.f10
  obtain ⟨v11, e11⟩ := hI.f11
  obtain ⟨v12, e12⟩ := hI.f12
  obtain ⟨v13, e13⟩ := hI.f13
  obtain ⟨v14, e14⟩ := hI.f14
  obtain ⟨v15, e15⟩ := hI.f15
  obtain ⟨v16, e16⟩ := hI.f16
  obtain ⟨v17, e17⟩ := hI.f17
  obtain ⟨v18, e18⟩ := hI.f18
  obtain ⟨v19, e19⟩ := hI.f19
  rw [lit321 a hI.size hI.defers, hI.s0, hI.s1, hI.s7, hI.s20, hI.s21, e5, e6, e8, e9, e10, e11, e12, e13, e14, e15, e16, e17, e18, e19]
  clear e5 e6 e8 e9 e10 e11 e12 e13 e14 e15 e16 e17 e18 e19
  have HKK := Lib.hid hK
  clear hK hI
  conv => arg 2; whnf
  try simp only [List.append]
  cases u <;> repeat' (first | exact HKK.out _ ⟨rfl, rfl, rfl, rfl, rfl, rfl, rfl, ⟨_, rfl⟩, ⟨_, rfl⟩, ⟨_, rfl⟩, ⟨_, rfl⟩, ⟨_, rfl⟩, ⟨_, rfl⟩, ⟨_, rfl⟩, ⟨_, rfl⟩, ⟨_, rfl⟩, ⟨_, rfl⟩, ⟨_, rfl⟩, ⟨_, rfl⟩, ⟨_, rfl⟩, ⟨_, rfl⟩⟩ | (refine HP.out.mono ?_; rintro e w1 ⟨⟨r, rfl⟩, rfl⟩; cases r) | (refine HA.out.mono ?_; rintro e w1 ⟨⟨r, rfl⟩, rfl⟩; cases r) | go_wp2_with fail)
set_option maxHeartbeats 32000000 in
set_option maxRecDepth 100000 in
theorem cz_sp {p b n cp i : Nat} {wv : Value} {lb : Bool} {a : Act} {w : World} {K : Act → World → Prop} {Q : Exit → Act → World → Prop} (hI : In p b n cp i wv lb a) (hlt : i < n) (hm : n ≤ 70000) (x : Int) (hx : w.cell? ⟨b, i, none⟩ = some (.int .u8 x)) (y z : Int) (hk : Okc x y z) (hl : Lay w b i n x y z) (d : Nat) (hd : Wd.wd x = (d : Int)) (hd4 : d ≤ 4) (h32 : (x == 32) = true) (h10 : (x == 10) = false)
    (hK : ∀ a', In p b n cp i wv lb a' → K a' w) : cZ.wp Tryd.prog (Exit.then K Q) a w := by
  have j0 : (0 : Int) ≤ (i : Int) := by omega
  have j1 : (i : Int) < (n : Int) := by omega
  have HW := Lib.hid (Wd.wd_any x hk.x0 (by have := hk.x1; omega) w)
  rw [hd] at HW
  have HS := Lib.hid (spc_any b i n cp x (by omega) hm hk.x0 (by have := hk.x1; omega) w hx)
  have HB := Lib.hid (brk_any b i n cp x y z hm hk w hl)
  clear hk hl
  rw [h32] at HS
  rw [h10] at HB
  obtain ⟨v5, e5⟩ := hI.f5
  obtain ⟨v6, e6⟩ := hI.f6
  obtain ⟨v8, e8⟩ := hI.f8
  obtain ⟨v9, e9⟩ := hI.f9
  obtain ⟨v10, e10⟩ := hI.f10
  obtain ⟨v11, e11⟩ := hI.f11
  obtain ⟨v12, e12⟩ := hI.f12
  obtain ⟨v13, e13⟩ := hI.f13
  obtain ⟨v14, e14⟩ := hI.f14
  obtain ⟨v15, e15⟩ := hI.f15
  obtain ⟨v16, e16⟩ := hI.f16
  obtain ⟨v17, e17⟩ := hI.f17
  obtain ⟨v18, e18⟩ := hI.f18
  obtain ⟨v19, e19⟩ := hI.f19
  rw [lit321 a hI.size hI.defers, hI.s0, hI.s1, hI.s7, hI.s20, hI.s21, e5, e6, e8, e9, e10, e11, e12, e13, e14, e15, e16, e17, e18, e19]
  clear e5 e6 e8 e9 e10 e11 e12 e13 e14 e15 e16 e17 e18 e19
  have HKK := Lib.hid hK
  clear hK hI
  conv => arg 2; whnf
  try simp only [List.append]
  go_wp2_with fail
  refine HS.out.mono ?_
  rintro e w1 ⟨rfl, rfl⟩
  repeat' (first | exact HKK.out _ ⟨rfl, rfl, rfl, rfl, rfl, rfl, rfl, ⟨_, rfl⟩, ⟨_, rfl⟩, ⟨_, rfl⟩, ⟨_, rfl⟩, ⟨_, rfl⟩, ⟨_, rfl⟩, ⟨_, rfl⟩, ⟨_, rfl⟩, ⟨_, rfl⟩, ⟨_, rfl⟩, ⟨_, rfl⟩, ⟨_, rfl⟩, ⟨_, rfl⟩, ⟨_, rfl⟩⟩ | (refine HW.out.mono ?_; rintro e w1 ⟨rfl, rfl⟩) | refine wp_cond_split rfl (fun _ => ?_) (fun _ => ?_) | go_wp2_with fail)
set_option maxHeartbeats 32000000 in
set_option maxRecDepth 100000 in
theorem cz_br {p b n cp i : Nat} {wv : Value} {lb : Bool} {a : Act} {w : World} {K : Act → World → Prop} {Q : Exit → Act → World → Prop} (hI : In p b n cp i wv lb a) (hlt : i < n) (hm : n ≤ 70000) (x : Int) (hx : w.cell? ⟨b, i, none⟩ = some (.int .u8 x)) (y z : Int) (hk : Okc x y z) (hl : Lay w b i n x y z) (d : Nat) (hd : Wd.wd x = (d : Int)) (hd4 : d ≤ 4) (h32 : (x == 32) = false) (h10 : (x == 10) = true)
    (hK : ∀ a', In p b n cp i wv true a' → K a' w) : cZ.wp Tryd.prog (Exit.then K Q) a w := by
  have j0 : (0 : Int) ≤ (i : Int) := by omega
  have j1 : (i : Int) < (n : Int) := by omega
  have HW := Lib.hid (Wd.wd_any x hk.x0 (by have := hk.x1; omega) w)
  rw [hd] at HW
  have HS := Lib.hid (spc_any b i n cp x (by omega) hm hk.x0 (by have := hk.x1; omega) w hx)
  have HB := Lib.hid (brk_any b i n cp x y z hm hk w hl)
  clear hk hl
  rw [h32] at HS
  rw [h10] at HB
  obtain ⟨v5, e5⟩ := hI.f5
  obtain ⟨v6, e6⟩ := hI.f6
  obtain ⟨v8, e8⟩ := hI.f8
  obtain ⟨v9, e9⟩ := hI.f9
  obtain ⟨v10, e10⟩ := hI.f10
  obtain ⟨v11, e11⟩ := hI.f11
  obtain ⟨v12, e12⟩ := hI.f12
  obtain ⟨v13, e13⟩ := hI.f13
  obtain ⟨v14, e14⟩ := hI.f14
  obtain ⟨v15, e15⟩ := hI.f15
  obtain ⟨v16, e16⟩ := hI.f16
  obtain ⟨v17, e17⟩ := hI.f17
  obtain ⟨v18, e18⟩ := hI.f18
  obtain ⟨v19, e19⟩ := hI.f19
  rw [lit321 a hI.size hI.defers, hI.s0, hI.s1, hI.s7, hI.s20, hI.s21, e5, e6, e8, e9, e10, e11, e12, e13, e14, e15, e16, e17, e18, e19]
  clear e5 e6 e8 e9 e10 e11 e12 e13 e14 e15 e16 e17 e18 e19
  have HKK := Lib.hid hK
  clear hK hI
  conv => arg 2; whnf
  try simp only [List.append]
  go_wp2_with fail
  refine HS.out.mono ?_
  rintro e w1 ⟨rfl, rfl⟩
  go_wp2_with fail
  refine HB.out.mono ?_
  rintro e w1 ⟨rfl, rfl⟩
  repeat' (first | exact HKK.out _ ⟨rfl, rfl, rfl, rfl, rfl, rfl, rfl, ⟨_, rfl⟩, ⟨_, rfl⟩, ⟨_, rfl⟩, ⟨_, rfl⟩, ⟨_, rfl⟩, ⟨_, rfl⟩, ⟨_, rfl⟩, ⟨_, rfl⟩, ⟨_, rfl⟩, ⟨_, rfl⟩, ⟨_, rfl⟩, ⟨_, rfl⟩, ⟨_, rfl⟩, ⟨_, rfl⟩⟩ | (refine HW.out.mono ?_; rintro e w1 ⟨rfl, rfl⟩) | refine wp_cond_split rfl (fun _ => ?_) (fun _ => ?_) | go_wp2_with fail)
set_option maxHeartbeats 32000000 in
set_option maxRecDepth 100000 in
theorem cz_no {p b n cp i : Nat} {wv : Value} {lb : Bool} {a : Act} {w : World} {K : Act → World → Prop} {Q : Exit → Act → World → Prop} (hI : In p b n cp i wv lb a) (hlt : i < n) (hm : n ≤ 70000) (x : Int) (hx : w.cell? ⟨b, i, none⟩ = some (.int .u8 x)) (y z : Int) (hk : Okc x y z) (hl : Lay w b i n x y z) (d : Nat) (hd : Wd.wd x = (d : Int)) (hd4 : d ≤ 4) (h32 : (x == 32) = false) (h10 : (x == 10) = false)
    (hK : ∀ a', In p b n cp i wv lb a' → K a' w) : cZ.wp Tryd.prog (Exit.then K Q) a w := by
  have j0 : (0 : Int) ≤ (i : Int) := by omega
  have j1 : (i : Int) < (n : Int) := by omega
  have HW := Lib.hid (Wd.wd_any x hk.x0 (by have := hk.x1; omega) w)
  rw [hd] at HW
  have HS := Lib.hid (spc_any b i n cp x (by omega) hm hk.x0 (by have := hk.x1; omega) w hx)
  have HB := Lib.hid (brk_any b i n cp x y z hm hk w hl)
  clear hk hl
  rw [h32] at HS
  rw [h10] at HB
  obtain ⟨v5, e5⟩ := hI.f5
  obtain ⟨v6, e6⟩ := hI.f6
  obtain ⟨v8, e8⟩ := hI.f8
  obtain ⟨v9, e9⟩ := hI.f9
  obtain ⟨v10, e10⟩ := hI.f10
  obtain ⟨v11, e11⟩ := hI.f11
  obtain ⟨v12, e12⟩ := hI.f12
  obtain ⟨v13, e13⟩ := hI.f13
  obtain ⟨v14, e14⟩ := hI.f14
  obtain ⟨v15, e15⟩ := hI.f15
  obtain ⟨v16, e16⟩ := hI.f16
  obtain ⟨v17, e17⟩ := hI.f17
  obtain ⟨v18, e18⟩ := hI.f18
  obtain ⟨v19, e19⟩ := hI.f19
  rw [lit321 a hI.size hI.defers, hI.s0, hI.s1, hI.s7, hI.s20, hI.s21, e5, e6, e8, e9, e10, e11, e12, e13, e14, e15, e16, e17, e18, e19]
  clear e5 e6 e8 e9 e10 e11 e12 e13 e14 e15 e16 e17 e18 e19
  have HKK := Lib.hid hK
  clear hK hI
  conv => arg 2; whnf
  try simp only [List.append]
  go_wp2_with fail
  refine HS.out.mono ?_
  rintro e w1 ⟨rfl, rfl⟩
  go_wp2_with fail
  refine HB.out.mono ?_
  rintro e w1 ⟨rfl, rfl⟩
  go_wp2_with fail
  exact HKK.out _ ⟨rfl, rfl, rfl, rfl, rfl, rfl, rfl, ⟨_, rfl⟩, ⟨_, rfl⟩, ⟨_, rfl⟩, ⟨_, rfl⟩, ⟨_, rfl⟩, ⟨_, rfl⟩, ⟨_, rfl⟩, ⟨_, rfl⟩, ⟨_, rfl⟩, ⟨_, rfl⟩, ⟨_, rfl⟩, ⟨_, rfl⟩, ⟨_, rfl⟩, ⟨_, rfl⟩⟩
theorem cz {p b n cp i : Nat} {wv : Value} {lb : Bool} {a : Act} {w : World} {K : Act → World → Prop} {Q : Exit → Act → World → Prop} (hI : In p b n cp i wv lb a) (hlt : i < n) (hm : n ≤ 70000) (x : Int) (hx : w.cell? ⟨b, i, none⟩ = some (.int .u8 x)) (y z : Int) (hk : Okc x y z) (hl : Lay w b i n x y z) (d : Nat) (hd : Wd.wd x = (d : Int)) (hd4 : d ≤ 4)
    (hK : ∀ a', In p b n cp i wv (lb || x == 10) a' → K a' w) : cZ.wp Tryd.prog (Exit.then K Q) a w := by
  cases h10 : (x == 10) with
  | true =>
    rw [h10, Bool.or_true] at hK
    exact cz_br hI hlt hm x hx y z hk hl d hd hd4 (by rw [beq_iff_eq] at h10; subst h10; rfl) h10 hK
  | false =>
    rw [h10, Bool.or_false] at hK
    cases h32 : (x == 32) with
    | true => exact cz_sp hI hlt hm x hx y z hk hl d hd hd4 h32 h10 hK
    | false => exact cz_no hI hlt hm x hx y z hk hl d hd hd4 h32 h10 hK
set_option maxHeartbeats 32000000 in
set_option maxRecDepth 100000 in
theorem ce {p b n cp i : Nat} {wv : Value} {lb : Bool} {a : Act} {w : World} {K : Act → World → Prop} {Q : Exit → Act → World → Prop} (hI : In p b n cp i wv lb a) (hlt : i < n) (hm : n ≤ 70000) (x : Int) (hx : w.cell? ⟨b, i, none⟩ = some (.int .u8 x)) (y z : Int) (hk : Okc x y z) (hl : Lay w b i n x y z)
    (hK : ∀ a', In p b n cp i wv lb a' → K a' w) : cE.wp Tryd.prog (Exit.then K Q) a w := by
  have j0 : (0 : Int) ≤ (i : Int) := by omega
  have j1 : (i : Int) < (n : Int) := by omega
  have HB := Lib.hid (blz_any b i n cp x y z hm hk w hl)
  clear hk hl
  obtain ⟨v5, e5⟩ := hI.f5
  obtain ⟨v6, e6⟩ := hI.f6
  obtain ⟨v8, e8⟩ := hI.f8
  obtain ⟨v9, e9⟩ := hI.f9
  obtain ⟨v10, e10⟩ := hI.f10
  obtain ⟨v11, e11⟩ := hI.f11
  obtain ⟨v12, e12⟩ := hI.f12
  obtain ⟨v13, e13⟩ := hI.f13
  obtain ⟨v14, e14⟩ := hI.f14
  obtain ⟨v15, e15⟩ := hI.f15
  obtain ⟨v16, e16⟩ := hI.f16
  obtain ⟨v17, e17⟩ := hI.f17
  obtain ⟨v18, e18⟩ := hI.f18
  obtain ⟨v19, e19⟩ := hI.f19
  rw [lit321 a hI.size hI.defers, hI.s0, hI.s1, hI.s7, hI.s20, hI.s21, e5, e6, e8, e9, e10, e11, e12, e13, e14, e15, e16, e17, e18, e19]
  clear e5 e6 e8 e9 e10 e11 e12 e13 e14 e15 e16 e17 e18 e19
  have HKK := Lib.hid hK
  clear hK hI
  conv => arg 2; whnf
  try simp only [List.append]
  go_wp2_with fail
  refine HB.out.mono ?_
  rintro e w1 ⟨⟨r, rfl⟩, rfl⟩
  go_wp2_with fail
  exact HKK.out _ ⟨rfl, rfl, rfl, rfl, rfl, rfl, rfl, ⟨_, rfl⟩, ⟨_, rfl⟩, ⟨_, rfl⟩, ⟨_, rfl⟩, ⟨_, rfl⟩, ⟨_, rfl⟩, ⟨_, rfl⟩, ⟨_, rfl⟩, ⟨_, rfl⟩, ⟨_, rfl⟩, ⟨_, rfl⟩, ⟨_, rfl⟩, ⟨_, rfl⟩, ⟨_, rfl⟩⟩
end Go.Proofs.YtcmnjnogdpejfaaDoor.Ln
