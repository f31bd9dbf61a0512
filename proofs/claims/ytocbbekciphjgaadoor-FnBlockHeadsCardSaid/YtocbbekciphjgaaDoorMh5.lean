/- QmA, QfB, QgA, QfC: parts of the proof, one behind another. -/
import Derived.Test.YtocbbekciphjgaaDoorMh1
import Derived.Test.YtocbbekciphjgaaDoorMh2
import Derived.Test.YtocbbekciphjgaaDoorMh4
/- QmA -/
/- What FnBlockHeads compares, put together: the reference's value, the text that is scanned. -/
namespace Go.Proofs.YtocbbekciphjgaaDoor.Bh
open Go.RowKit Go.Proofs.YtocbbekciphjgaaDoor.Rdp Go.Proofs.YtocbbekciphjgaaDoor.Pa Go.Proofs.YtocbbekciphjgaaDoor.Sc Go.Proofs.YtocbbekciphjgaaDoor.Qd Go.Proofs.YtocbbekciphjgaaDoor.Bs Go.Proofs.YtocbbekciphjgaaDoor.Dq Go.Proofs.YtocbbekciphjgaaDoor.Ln Go.Proofs.YtocbbekciphjgaaDoor.Bk2 Go.Proofs.YtocbbekciphjgaaDoor.Hr
set_option linter.unusedVariables false
set_option linter.unusedSimpArgs false
/-- The value. -/
def vOf (ch : Int) (e : Nat) : List Int := Bs.sps (if e = 0 then 0 else 10 - e) ++ [97] ++ (if ch - 1 ≠ -1 then [10] else []) ++ (if ch - 1 = 1 then [10] else [])
theorem v0 (e : Nat) : vOf 0 e = Bs.sps (if e = 0 then 0 else 10 - e) ++ [97] := by
  show _ ++ [97] ++ [] ++ [] = _
  rw [List.append_nil, List.append_nil]
theorem v1 (e : Nat) : vOf 1 e = Bs.sps (if e = 0 then 0 else 10 - e) ++ [97] ++ [10] := by
  show _ ++ [97] ++ [10] ++ [] = _
  rw [List.append_nil]
theorem v2 (e : Nat) : vOf 2 e = Bs.sps (if e = 0 then 0 else 10 - e) ++ [97] ++ [10] ++ [10] := rfl
theorem block_want (ch : Int) (hch : ch = 0 ∨ ch = 1 ∨ ch = 2) (e : Nat) (he : e ≤ 9) (fold : Bool) (sb : Nat) (w : World) (hT : Tabs w) (c0 : w.cell? ⟨sb, 0, none⟩ = some (.string sTen)) (c1 : w.cell? ⟨sb, 1, none⟩ = some (.string ⟨#[]⟩)) (hsb : sb < w.heap.size) :
    Calls Tryd.prog 27 #[.slice (some ⟨sb, 0, none⟩) 2 2, .bool fold, .int .i64 ch, .int .i64 (e : Nat), .int .i64 0] w fun r w' => r = .returned (.tuple #[.string (strOfNums (us (vOf ch e))), .int .i64 2]) ∧ Below w.heap.size w w' := by
  have hd : 10 - (if e = 0 then 10 else e) = (if e = 0 then 0 else 10 - e) := by split <;> omega
  rcases hch with rfl | rfl | rfl
  · refine (block_0 e he _ rfl fold sb w hT c0 c1 hsb).mono ?_
    rintro r w' ⟨rfl, hb⟩
    refine ⟨?_, hb⟩
    rw [hd, v0]
  · refine (block_1 e he _ rfl fold sb w hT c0 c1 hsb).mono ?_
    rintro r w' ⟨rfl, hb⟩
    refine ⟨?_, hb⟩
    rw [hd, v1]
    generalize Bs.sps (if e = 0 then 0 else 10 - e) ++ [97] = Y
    rw [us_snoc (by omega), ← str_append]
    rfl
  · refine (block_2 e he _ rfl fold sb w hT c0 c1 hsb).mono ?_
    rintro r w' ⟨rfl, hb⟩
    refine ⟨?_, hb⟩
    rw [hd, v2]
    generalize Bs.sps (if e = 0 then 0 else 10 - e) ++ [97] = Y
    rw [us_snoc (by omega), us_snoc (by omega), List.append_assoc, ← str_append]
    rfl
set_option maxHeartbeats 4000000 in
set_option maxRecDepth 100000 in
/-- A line without breaks (spec.Row): it tells, and that is all that is needed. -/
theorem row_any (s : ByteArray) (w : World) (hs : s.size ≤ 2147483647) (hT : Tabs w) : Calls Tryd.prog 23 #[.string s] w fun e w' => (∃ b : Bool, e = .returned (.bool b)) ∧ Below w.heap.size w w' := by
  have hru := runes_any s w hs hT
  have HRU := Lib.hid hru
  clear hru hT
  go_enter Tryd.func23, Tryd.ntmps23
  go_wp2_with fail
  refine HRU.out.mono ?_
  rintro e w1 ⟨hb1, ⟨hno, rfl⟩ | ⟨⟨hsz, hval⟩, b, cp, rfl, ⟨hcp, hmx⟩, hcell⟩⟩
  · have HB := Lib.hid hb1
    clear hb1 hno
    go_wp2_with fail
    go_ret
    exact ⟨⟨_, rfl⟩, HB.out⟩
  have hlen : (rsFrom s s.size 0).length ≤ s.size := rs_len s s.size 0
  have hal := all_any (rsFrom s s.size 0) b cp false w1 (by omega) (rs_range s _ _) hcell
  have HB := Lib.hid hb1
  have HAL := Lib.hid hal
  clear hb1 hal hcell hval
  go_wp2_with fail
  refine HAL.out.mono ?_
  rintro e w2 ⟨rfl, rfl⟩
  go_wp2_with fail
  go_ret
  exact ⟨⟨_, rfl⟩, HB.out⟩
set_option maxHeartbeats 1000000 in
theorem sign_fold (w : World) : Calls Tryd.prog 26 #[.bool true] w fun e w' => e = .returned (.string ⟨#[62]⟩) ∧ w' = w := by
  go_enter Tryd.func26, Tryd.ntmps26
  go_wp2_with fail
  go_ret
  exact ⟨rfl, rfl⟩
set_option maxHeartbeats 1000000 in
theorem sign_lit (w : World) : Calls Tryd.prog 26 #[.bool false] w fun e w' => e = .returned (.string ⟨#[124]⟩) ∧ w' = w := by
  go_enter Tryd.func26, Tryd.ntmps26
  go_wp2_with fail
  go_ret
  exact ⟨rfl, rfl⟩
/-- What stands behind the header. -/
def tl0 : List Int := Bs.sps 10 ++ [97, 10, 10]
def tl : List Int := 10 :: tl0
theorem tl_us : us tl = tl := by decide +kernel
theorem tl_str : strOfNums tl = ⟨#[10, 32, 32, 32, 32, 32, 32, 32, 32, 32, 32, 97, 10, 10]⟩ := by kernel_rfl
theorem t_us (q : Int) (hq : q < 128) (zs : List Int) : us (q :: (zs ++ tl)) = [q] ++ us zs ++ tl := by
  show u8 q ++ us (zs ++ tl) = _
  rw [us_app, tl_us, u8_1 hq, List.append_assoc]
theorem t_str (q : Int) (hq : q < 128) (zs : List Int) : strOfNums [q] ++ strOfNums (us zs) ++ strOfNums tl = strOfNums (us (q :: (zs ++ tl))) := by rw [t_us q hq, str_append, str_append]
theorem t_ch {q : Int} (hq : Ch q) {zs : List Int} (h : ∀ c ∈ zs, Ch c) : ∀ y ∈ q :: (zs ++ tl), Ch y := by
  intro y hy
  have htl : ∀ y ∈ tl, y = 10 ∨ y = 32 ∨ y = 97 := by decide
  simp only [List.mem_cons, List.mem_append] at hy
  rcases hy with rfl | hy | hy
  · exact hq
  · exact h y hy
  · have := htl y hy
    unfold Ch
    omega
theorem t_last (q : Int) (zs : List Int) : Lfd (q :: (zs ++ tl)) := .inr ⟨q :: (zs ++ (10 :: (Bs.sps 10 ++ [97, 10]))), by unfold tl tl0; simp⟩
theorem okc_up {c : Int} (h : okc false c = true) : okc true c = true := by
  unfold okc at *
  simp at h
  simp [h]
/-- A header is one, or none: what the scanner makes of it. -/
theorem block_bad {zs : List Int} (h : ∀ tl, ∃ ch e', Hd (zs ++ 10 :: tl) ch e' none) (fold : Bool) : Block fold 0 (zs ++ tl) none := by
  obtain ⟨ch, e', h1⟩ := h tl0
  exact .bad h1
theorem block_says {zs : List Int} {ch : Int} {e : Nat} (he : e ≤ 9) (h : ∀ tl, Hd (zs ++ 10 :: tl) (ch - 1) e (some tl)) (fold : Bool) : Block fold 0 (zs ++ tl) (some (vOf ch e)) := block_ten (r := []) he (h tl0)
end Go.Proofs.YtocbbekciphjgaaDoor.Bh
/- QfB -/
/- What the package's looks at a character say (is_breakz, is_space, is_tab): walked. Printed by genQfB.py. -/
namespace Go.Proofs.YtocbbekciphjgaaDoor.Qd
open Go.RowKit Go.Proofs.YtocbbekciphjgaaDoor.Rdp Go.Proofs.YtocbbekciphjgaaDoor.Pa Go.Proofs.YtocbbekciphjgaaDoor.Sc
set_option linter.unusedVariables false
set_option linter.unusedSimpArgs false
set_option maxHeartbeats 4000000 in
set_option maxRecDepth 100000 in
theorem brz_10 (b i n c : Nat) (hi : i + 0 < n) (hm : n ≤ 70000)  (w : World) (hx : w.cell? ⟨b, i, none⟩ = some (.int .u8 10)) :
    Calls Tryd.prog 123 #[.slice (some ⟨b, 0, none⟩) n c, .int .i64 i] w fun e w' => (e = .returned (.bool true)) ∧ w' = w := by
  have j0 : (i : Int) < (n : Int) := by omega
  have k0 : (0 : Int) ≤ (i : Int) := by omega
  go_enter Tryd.func123, Tryd.ntmps123
  (try simp only [List.append])
  go_wp2_with fail
  go_ret
  first | exact ⟨rfl, rfl⟩ | exact ⟨ret_n (by omega), rfl⟩ | exact ⟨ret_b (by simp; omega), rfl⟩
set_option maxHeartbeats 4000000 in
set_option maxRecDepth 100000 in
theorem brz_0 (b i n c : Nat) (hi : i + 0 < n) (hm : n ≤ 70000)  (w : World) (hx : w.cell? ⟨b, i, none⟩ = some (.int .u8 0)) :
    Calls Tryd.prog 123 #[.slice (some ⟨b, 0, none⟩) n c, .int .i64 i] w fun e w' => (e = .returned (.bool true)) ∧ w' = w := by
  have j0 : (i : Int) < (n : Int) := by omega
  have k0 : (0 : Int) ≤ (i : Int) := by omega
  go_enter Tryd.func123, Tryd.ntmps123
  (try simp only [List.append])
  go_wp2_with fail
  go_ret
  first | exact ⟨rfl, rfl⟩ | exact ⟨ret_n (by omega), rfl⟩ | exact ⟨ret_b (by simp; omega), rfl⟩
set_option maxHeartbeats 4000000 in
set_option maxRecDepth 100000 in
theorem brz_no (b i n c : Nat) (x : Int) (hi : i + 0 < n) (hm : n ≤ 70000) (hx0 : 0 ≤ x) (hx1 : x ≤ 255) (h0 : (x == 13) = false) (h1 : (x == 10) = false) (h2 : (x == 0) = false) (h3 : (x == 194) = false) (h4 : (x == 226) = false) (w : World) (hx : w.cell? ⟨b, i, none⟩ = some (.int .u8 x)) :
    Calls Tryd.prog 123 #[.slice (some ⟨b, 0, none⟩) n c, .int .i64 i] w fun e w' => (e = .returned (.bool false)) ∧ w' = w := by
  have j0 : (i : Int) < (n : Int) := by omega
  have k0 : (0 : Int) ≤ (i : Int) := by omega
  go_enter Tryd.func123, Tryd.ntmps123
  (try simp only [List.append])
  go_wp2_with fail
  go_ret
  first | exact ⟨rfl, rfl⟩ | exact ⟨ret_n (by omega), rfl⟩ | exact ⟨ret_b (by simp; omega), rfl⟩
set_option maxHeartbeats 4000000 in
set_option maxRecDepth 100000 in
theorem brz_c2 (b i n c : Nat) (y : Int) (hi : i + 1 < n) (hm : n ≤ 70000) (hy0 : 0 ≤ y) (hy1 : y ≤ 255) (h0 : (y == 133) = false) (w : World) (hx : w.cell? ⟨b, i, none⟩ = some (.int .u8 194)) (hy : w.cell? ⟨b, i + 1, none⟩ = some (.int .u8 y)) :
    Calls Tryd.prog 123 #[.slice (some ⟨b, 0, none⟩) n c, .int .i64 i] w fun e w' => (e = .returned (.bool false)) ∧ w' = w := by
  have j0 : (i : Int) < (n : Int) := by omega
  have j1 : (i : Int) + 1 < (n : Int) := by omega
  have k0 : (0 : Int) ≤ (i : Int) := by omega
  go_enter Tryd.func123, Tryd.ntmps123
  (try simp only [List.append])
  go_wp2_with fail
  go_ret
  first | exact ⟨rfl, rfl⟩ | exact ⟨ret_n (by omega), rfl⟩ | exact ⟨ret_b (by simp; omega), rfl⟩
set_option maxHeartbeats 4000000 in
set_option maxRecDepth 100000 in
theorem brz_e2 (b i n c : Nat) (y : Int) (hi : i + 1 < n) (hm : n ≤ 70000) (hy0 : 0 ≤ y) (hy1 : y ≤ 255) (h0 : (y == 128) = false) (w : World) (hx : w.cell? ⟨b, i, none⟩ = some (.int .u8 226)) (hy : w.cell? ⟨b, i + 1, none⟩ = some (.int .u8 y)) :
    Calls Tryd.prog 123 #[.slice (some ⟨b, 0, none⟩) n c, .int .i64 i] w fun e w' => (e = .returned (.bool false)) ∧ w' = w := by
  have j0 : (i : Int) < (n : Int) := by omega
  have j1 : (i : Int) + 1 < (n : Int) := by omega
  have k0 : (0 : Int) ≤ (i : Int) := by omega
  go_enter Tryd.func123, Tryd.ntmps123
  (try simp only [List.append])
  go_wp2_with fail
  go_ret
  first | exact ⟨rfl, rfl⟩ | exact ⟨ret_n (by omega), rfl⟩ | exact ⟨ret_b (by simp; omega), rfl⟩
set_option maxHeartbeats 4000000 in
set_option maxRecDepth 100000 in
theorem brz_e280 (b i n c : Nat) (y z : Int) (hi : i + 2 < n) (hm : n ≤ 70000) (hy0 : 0 ≤ y) (hy1 : y ≤ 255) (hz0 : 0 ≤ z) (hz1 : z ≤ 255) (h0 : (y == 128) = true) (h1 : (z == 168) = false) (h2 : (z == 169) = false) (w : World) (hx : w.cell? ⟨b, i, none⟩ = some (.int .u8 226)) (hy : w.cell? ⟨b, i + 1, none⟩ = some (.int .u8 y)) (hz : w.cell? ⟨b, i + 2, none⟩ = some (.int .u8 z)) :
    Calls Tryd.prog 123 #[.slice (some ⟨b, 0, none⟩) n c, .int .i64 i] w fun e w' => (e = .returned (.bool false)) ∧ w' = w := by
  have j0 : (i : Int) < (n : Int) := by omega
  have j1 : (i : Int) + 1 < (n : Int) := by omega
  have j2 : (i : Int) + 2 < (n : Int) := by omega
  have k0 : (0 : Int) ≤ (i : Int) := by omega
  go_enter Tryd.func123, Tryd.ntmps123
  (try simp only [List.append])
  go_wp2_with fail
  go_ret
  first | exact ⟨rfl, rfl⟩ | exact ⟨ret_n (by omega), rfl⟩ | exact ⟨ret_b (by simp; omega), rfl⟩
set_option maxHeartbeats 4000000 in
set_option maxRecDepth 100000 in
theorem sp_any (b i n c : Nat) (x : Int) (hi : i + 0 < n) (hm : n ≤ 70000) (hx0 : 0 ≤ x) (hx1 : x ≤ 255)  (w : World) (hx : w.cell? ⟨b, i, none⟩ = some (.int .u8 x)) :
    Calls Tryd.prog 135 #[.slice (some ⟨b, 0, none⟩) n c, .int .i64 i] w fun e w' => (e = .returned (.bool (x == 32))) ∧ w' = w := by
  have j0 : (i : Int) < (n : Int) := by omega
  have k0 : (0 : Int) ≤ (i : Int) := by omega
  go_enter Tryd.func135, Tryd.ntmps135
  (try simp only [List.append])
  go_wp2_with fail
  go_ret
  first | exact ⟨rfl, rfl⟩ | exact ⟨ret_n (by omega), rfl⟩ | exact ⟨ret_b (by simp; omega), rfl⟩
set_option maxHeartbeats 4000000 in
set_option maxRecDepth 100000 in
theorem tab_any (b i n c : Nat) (x : Int) (hi : i + 0 < n) (hm : n ≤ 70000) (hx0 : 0 ≤ x) (hx1 : x ≤ 255)  (w : World) (hx : w.cell? ⟨b, i, none⟩ = some (.int .u8 x)) :
    Calls Tryd.prog 136 #[.slice (some ⟨b, 0, none⟩) n c, .int .i64 i] w fun e w' => (e = .returned (.bool (x == 9))) ∧ w' = w := by
  have j0 : (i : Int) < (n : Int) := by omega
  have k0 : (0 : Int) ≤ (i : Int) := by omega
  go_enter Tryd.func136, Tryd.ntmps136
  (try simp only [List.append])
  go_wp2_with fail
  go_ret
  first | exact ⟨rfl, rfl⟩ | exact ⟨ret_n (by omega), rfl⟩ | exact ⟨ret_b (by simp; omega), rfl⟩
def isBrz (x : Int) : Bool := x == 10 || x == 0
theorem isBrz_no {x : Int} (h3 : x ≠ 10) (h4 : x ≠ 0) : isBrz x = false := by unfold isBrz; rw [nb h3, nb h4]; rfl
theorem brz_any (b i n c : Nat) (x y z : Int) (hm : n ≤ 70000) (hk : Okc x y z) (w : World) (hl : Lays w b i n x y z) :
    Calls Tryd.prog 123 #[.slice (some ⟨b, 0, none⟩) n c, .int .i64 i] w fun e w' => (e = .returned (.bool (isBrz x))) ∧ w' = w := by
  obtain ⟨x0, x1, y0, y1, z0, z1, low, c2, e2⟩ := hk
  obtain ⟨hi, hx, hy, hz⟩ := hl
  by_cases h10 : x = 10
  · subst h10; exact brz_10 b i n c (by omega) hm w hx
  by_cases h0 : x = 0
  · subst h0; exact brz_0 b i n c (by omega) hm w hx
  rw [isBrz_no h10 h0]
  by_cases h1 : x = 194
  · subst h1; exact brz_c2 b i n c y (hy (by omega)).1 hm y0 y1 (nb (by have := c2 rfl; omega)) w hx (hy (by omega)).2
  by_cases h2 : x = 226
  · subst h2
    by_cases h3 : y = 128
    · exact brz_e280 b i n c y z (hz (by omega)).1 hm y0 y1 z0 z1 (yb h3) (nb (e2 rfl h3).1) (nb (e2 rfl h3).2) w hx (hy (by omega)).2 (hz (by omega)).2
    · exact brz_e2 b i n c y (hy (by omega)).1 hm y0 y1 (nb h3) w hx (hy (by omega)).2
  exact brz_no b i n c x (by omega) hm x0 (by omega) (nb (fun h => by have := low (by omega); omega)) (nb h10) (nb h0) (nb h1) (nb h2) w hx
end Go.Proofs.YtocbbekciphjgaaDoor.Qd
/- QgA -/
/- The parts of yaml_parser_scan_block_scalar, its frames in the header, and what stands in memory. Printed by genQg.py. -/
namespace Go.Proofs.YtocbbekciphjgaaDoor.Bs
open Go.RowKit Go.Proofs.YtocbbekciphjgaaDoor.Rdp Go.Proofs.YtocbbekciphjgaaDoor.Pa Go.Proofs.YtocbbekciphjgaaDoor.Sc Go.Proofs.YtocbbekciphjgaaDoor.Qd
set_option linter.unusedVariables false
set_option linter.unusedSimpArgs false
noncomputable def gZ : Code := Tryd.f79.body.getD .skip
noncomputable def g0 : Code := Qd.part [0] gZ
noncomputable def g1 : Code := Qd.part [1, 0] gZ
noncomputable def g2 : Code := Qd.part [1, 1, 0] gZ
noncomputable def gU3 : Code := Qd.part [1, 1, 1, 0] gZ
noncomputable def g5 : Code := Qd.part [1, 1, 1, 1, 0] gZ
noncomputable def gHd : Code := Qd.part [1, 1, 1, 1, 1, 0] gZ
noncomputable def gU32 : Code := Qd.part [1, 1, 1, 1, 1, 1, 0] gZ
noncomputable def gBl : Code := Qd.part [1, 1, 1, 1, 1, 1, 1, 0, 0, 0] gZ
noncomputable def gCm : Code := Qd.part [1, 1, 1, 1, 1, 1, 1, 1, 0] gZ
noncomputable def gEr : Code := Qd.part [1, 1, 1, 1, 1, 1, 1, 1, 1, 0] gZ
noncomputable def gNl : Code := Qd.part [1, 1, 1, 1, 1, 1, 1, 1, 1, 1, 0] gZ
noncomputable def g52 : Code := Qd.part [1, 1, 1, 1, 1, 1, 1, 1, 1, 1, 1, 0] gZ
noncomputable def g53 : Code := Qd.part [1, 1, 1, 1, 1, 1, 1, 1, 1, 1, 1, 1, 0] gZ
noncomputable def gIn : Code := Qd.part [1, 1, 1, 1, 1, 1, 1, 1, 1, 1, 1, 1, 1, 0] gZ
noncomputable def g58 : Code := Qd.part [1, 1, 1, 1, 1, 1, 1, 1, 1, 1, 1, 1, 1, 1, 0] gZ
noncomputable def g59 : Code := Qd.part [1, 1, 1, 1, 1, 1, 1, 1, 1, 1, 1, 1, 1, 1, 1, 0] gZ
noncomputable def gU61 : Code := Qd.part [1, 1, 1, 1, 1, 1, 1, 1, 1, 1, 1, 1, 1, 1, 1, 1, 0] gZ
noncomputable def g63 : Code := Qd.part [1, 1, 1, 1, 1, 1, 1, 1, 1, 1, 1, 1, 1, 1, 1, 1, 1, 0] gZ
noncomputable def gL : Code := Qd.part [1, 1, 1, 1, 1, 1, 1, 1, 1, 1, 1, 1, 1, 1, 1, 1, 1, 1, 0, 0, 0] gZ
noncomputable def g83 : Code := Qd.part [1, 1, 1, 1, 1, 1, 1, 1, 1, 1, 1, 1, 1, 1, 1, 1, 1, 1, 1, 0] gZ
noncomputable def g85 : Code := Qd.part [1, 1, 1, 1, 1, 1, 1, 1, 1, 1, 1, 1, 1, 1, 1, 1, 1, 1, 1, 1, 0] gZ
noncomputable def g87 : Code := Qd.part [1, 1, 1, 1, 1, 1, 1, 1, 1, 1, 1, 1, 1, 1, 1, 1, 1, 1, 1, 1, 1, 0] gZ
noncomputable def g88 : Code := Qd.part [1, 1, 1, 1, 1, 1, 1, 1, 1, 1, 1, 1, 1, 1, 1, 1, 1, 1, 1, 1, 1, 1, 0] gZ
noncomputable def g90 : Code := Qd.part [1, 1, 1, 1, 1, 1, 1, 1, 1, 1, 1, 1, 1, 1, 1, 1, 1, 1, 1, 1, 1, 1, 1] gZ
noncomputable def g6 : Code := Qd.part [0] gHd
noncomputable def gA : Code := Qd.part [1, 0] gHd
noncomputable def gB : Code := Qd.part [1, 1] gHd
noncomputable def g7 : Code := Qd.part [0, 0] gA
noncomputable def g8 : Code := Qd.part [0, 1, 0] gA
noncomputable def g9 : Code := Qd.part [0, 1, 1] gA
noncomputable def g10 : Code := Qd.part [1, 0] gA
noncomputable def gU11 : Code := Qd.part [1, 1, 0] gA
noncomputable def g13 : Code := Qd.part [1, 1, 1, 0] gA
noncomputable def gAd : Code := Qd.part [1, 1, 1, 1, 0] gA
noncomputable def g14 : Code := Qd.part [0, 0] gAd
noncomputable def g15 : Code := Qd.part [0, 1, 0] gAd
noncomputable def g17 : Code := Qd.part [1, 0] gAd
noncomputable def g18 : Code := Qd.part [1, 1] gAd
noncomputable def g19 : Code := Qd.part [0] gB
noncomputable def gBd : Code := Qd.part [1, 0] gB
noncomputable def g20 : Code := Qd.part [0, 0] gBd
noncomputable def g21 : Code := Qd.part [0, 1, 0] gBd
noncomputable def g23 : Code := Qd.part [1, 0] gBd
noncomputable def g24 : Code := Qd.part [1, 1, 0] gBd
noncomputable def gU25 : Code := Qd.part [1, 1, 1, 0] gBd
noncomputable def g27 : Code := Qd.part [1, 1, 1, 1, 0] gBd
noncomputable def gBs : Code := Qd.part [1, 1, 1, 1, 1, 0] gBd
noncomputable def g28 : Code := Qd.part [0, 0] gBs
noncomputable def g29 : Code := Qd.part [0, 1, 0] gBs
noncomputable def g30 : Code := Qd.part [0, 1, 1] gBs
noncomputable def g31 : Code := Qd.part [1] gBs
noncomputable def g34 : Code := Qd.part [0, 0] gBl
noncomputable def g35 : Code := Qd.part [1, 0, 0] gBl
noncomputable def gU36 : Code := Qd.part [1, 0, 1] gBl
noncomputable def g38 : Code := Qd.part [0] gCm
noncomputable def g39 : Code := Qd.part [1, 0, 0] gCm
noncomputable def gCl : Code := Qd.part [1, 0, 1, 0, 0] gCm
noncomputable def g41 : Code := Qd.part [0, 0] gCl
noncomputable def g42 : Code := Qd.part [1, 0, 0] gCl
noncomputable def gU43 : Code := Qd.part [1, 0, 1] gCl
noncomputable def g45 : Code := Qd.part [0] gEr
noncomputable def g46 : Code := Qd.part [1, 0] gEr
noncomputable def g48 : Code := Qd.part [0] gNl
noncomputable def gU49 : Code := Qd.part [1, 0, 0] gNl
noncomputable def g51 : Code := Qd.part [1, 0, 1] gNl
noncomputable def g54 : Code := Qd.part [0] gIn
noncomputable def g55 : Code := Qd.part [1, 0, 0] gIn
noncomputable def g56 : Code := Qd.part [1, 0, 1, 0] gIn
noncomputable def g57 : Code := Qd.part [1, 0, 1, 1] gIn
noncomputable def g64 : Code := Qd.part [0, 0] gL
noncomputable def gLb : Code := Qd.part [1, 0] gL
noncomputable def g65 : Code := Qd.part [0] gLb
noncomputable def g66 : Code := Qd.part [1, 0, 0] gLb
noncomputable def g67 : Code := Qd.part [1, 0, 1, 0, 0] gLb
noncomputable def g68 : Code := Qd.part [1, 0, 1, 0, 1, 0] gLb
noncomputable def g69 : Code := Qd.part [1, 0, 1, 1] gLb
noncomputable def g70 : Code := Qd.part [1, 1, 0] gLb
noncomputable def g71 : Code := Qd.part [1, 1, 1, 0] gLb
noncomputable def g72 : Code := Qd.part [1, 1, 1, 1, 0] gLb
noncomputable def g73 : Code := Qd.part [1, 1, 1, 1, 1, 0] gLb
noncomputable def gRd : Code := Qd.part [1, 1, 1, 1, 1, 1, 0, 0, 0] gLb
noncomputable def gU78 : Code := Qd.part [1, 1, 1, 1, 1, 1, 1, 0] gLb
noncomputable def g80 : Code := Qd.part [1, 1, 1, 1, 1, 1, 1, 1, 0] gLb
noncomputable def g81 : Code := Qd.part [1, 1, 1, 1, 1, 1, 1, 1, 1] gLb
noncomputable def g74 : Code := Qd.part [0, 0] gRd
noncomputable def g75 : Code := Qd.part [1, 0, 0] gRd
noncomputable def gU76 : Code := Qd.part [1, 0, 1] gRd
noncomputable def g83t : Code := Qd.part [0] g83
noncomputable def g84 : Code := Qd.part [1, 0] g83
noncomputable def g85t : Code := Qd.part [0] g85
noncomputable def g86 : Code := Qd.part [1, 0] g85
theorem gZ_eq : gZ = .seq g0 (.seq g1 (.seq g2 (.seq gU3 (.seq g5 (.seq gHd (.seq gU32 (.seq (.block 0 (.loop gBl)) (.seq gCm (.seq gEr (.seq gNl (.seq g52 (.seq g53 (.seq gIn (.seq g58 (.seq g59 (.seq gU61 (.seq g63 (.seq (.block 4 (.loop gL)) (.seq g83 (.seq g85 (.seq g87 (.seq g88 g90)))))))))))))))))))))) := by kernel_rfl
theorem gHd_eq : gHd = .seq g6 (.cond (.tmp 56) gA gB) := by kernel_rfl
theorem gA_eq : gA = .seq (.seq g7 (.cond (.tmp 67) g8 g9)) (.seq g10 (.seq gU11 (.seq g13 (.cond (.tmp 88) gAd .skip)))) := by kernel_rfl
theorem gAd_eq : gAd = .seq (.seq g14 (.cond (.tmp 99) g15 .skip)) (.seq g17 g18) := by kernel_rfl
theorem gB_eq : gB = .seq g19 (.cond (.tmp 122) gBd .skip) := by kernel_rfl
theorem gBd_eq : gBd = .seq (.seq g20 (.cond (.tmp 133) g21 .skip)) (.seq g23 (.seq g24 (.seq gU25 (.seq g27 (.cond (.tmp 181) gBs .skip))))) := by kernel_rfl
theorem gBs_eq : gBs = .seq (.seq g28 (.cond (.tmp 192) g29 g30)) g31 := by kernel_rfl
theorem gBl_eq : gBl = .seq (.seq g34 (.cond (.tmp 213) .skip (.exit 0))) (.block 1 (.seq g35 gU36)) := by kernel_rfl
theorem gCm_eq : gCm = .seq g38 (.cond (.tmp 236) (.seq g39 (.block 2 (.loop gCl))) .skip) := by kernel_rfl
theorem gCl_eq : gCl = .seq (.seq g41 (.cond (.tmp 250) .skip (.exit 2))) (.block 3 (.seq g42 gU43)) := by kernel_rfl
theorem gEr_eq : gEr = .seq g45 (.cond (.tmp 272) g46 .skip) := by kernel_rfl
theorem gNl_eq : gNl = .seq g48 (.cond (.tmp 284) (.seq gU49 g51) .skip) := by kernel_rfl
theorem gIn_eq : gIn = .seq g54 (.cond (.tmp 302) (.seq g55 (.cond (.tmp 307) g56 g57)) .skip) := by kernel_rfl
theorem gL_eq : gL = .seq (.seq g64 (.cond (.tmp 347) .skip (.exit 4))) (.block 5 gLb) := by kernel_rfl
theorem gLb_eq : gLb = .seq g65 (.seq (.seq g66 (.cond (.tmp 377) (.seq g67 (.cond (.tmp 380) g68 .skip)) g69)) (.seq g70 (.seq g71 (.seq g72 (.seq g73 (.seq (.block 6 (.loop gRd)) (.seq gU78 (.seq g80 g81)))))))) := by kernel_rfl
theorem gRd_eq : gRd = .seq (.seq g74 (.cond (.tmp 412) .skip (.exit 6))) (.block 7 (.seq g75 gU76)) := by kernel_rfl
theorem g83_eq : g83 = .seq g83t (.cond (.tmp 444) g84 .skip) := by kernel_rfl
theorem g85_eq : g85 = .seq g85t (.cond (.tmp 449) g86 .skip) := by kernel_rfl
theorem gbody_eq : Tryd.f79.body = some gZ := by kernel_rfl
set_option maxRecDepth 1000000 in
theorem lit464 (a : Act) (h : a.tmps.size = 464) (hd : a.defers = []) : a = ⟨#[gt a 0, gt a 1, gt a 2, gt a 3, gt a 4, gt a 5, gt a 6, gt a 7, gt a 8, gt a 9, gt a 10, gt a 11, gt a 12, gt a 13, gt a 14, gt a 15, gt a 16, gt a 17, gt a 18, gt a 19, gt a 20, gt a 21, gt a 22, gt a 23, gt a 24, gt a 25, gt a 26, gt a 27, gt a 28, gt a 29, gt a 30, gt a 31, gt a 32, gt a 33, gt a 34, gt a 35, gt a 36, gt a 37, gt a 38, gt a 39, gt a 40, gt a 41, gt a 42, gt a 43, gt a 44, gt a 45, gt a 46, gt a 47, gt a 48, gt a 49, gt a 50, gt a 51, gt a 52, gt a 53, gt a 54, gt a 55, gt a 56, gt a 57, gt a 58, gt a 59, gt a 60, gt a 61, gt a 62, gt a 63, gt a 64, gt a 65, gt a 66, gt a 67, gt a 68, gt a 69, gt a 70, gt a 71, gt a 72, gt a 73, gt a 74, gt a 75, gt a 76, gt a 77, gt a 78, gt a 79, gt a 80, gt a 81, gt a 82, gt a 83, gt a 84, gt a 85, gt a 86, gt a 87, gt a 88, gt a 89, gt a 90, gt a 91, gt a 92, gt a 93, gt a 94, gt a 95, gt a 96, gt a 97, gt a 98, gt a 99, gt a 100, gt a 101, gt a 102, gt a 103, gt a 104, gt a 105, gt a 106, gt a 107, gt a 108, gt a 109, gt a 110, gt a 111, gt a 112, gt a 113, gt a 114, gt a 115, gt a 116, gt a 117, gt a 118, gt a 119, gt a 120, gt a 121, gt a 122, gt a 123, gt a 124, gt a 125, gt a 126, gt a 127, gt a 128, gt a 129, gt a 130, gt a 131, gt a 132, gt a 133, gt a 134, gt a 135, gt a 136, gt a 137, gt a 138, gt a 139, gt a 140, gt a 141, gt a 142, gt a 143, gt a 144, gt a 145, gt a 146, gt a 147, gt a 148, gt a 149, gt a 150, gt a 151, gt a 152, gt a 153, gt a 154, gt a 155, gt a 156, gt a 157, gt a 158, gt a 159, gt a 160, gt a 161, gt a 162, gt a 163, gt a 164, gt a 165, gt a 166, gt a 167, gt a 168, gt a 169, gt a 170, gt a 171, gt a 172, gt a 173, gt a 174, gt a 175, gt a 176, gt a 177, gt a 178, gt a 179, gt a 180, gt a 181, gt a 182, gt a 183, gt a 184, gt a 185, gt a 186, gt a 187, gt a 188, gt a 189, gt a 190, gt a 191, gt a 192, gt a 193, gt a 194, gt a 195, gt a 196, gt a 197, gt a 198, gt a 199, gt a 200, gt a 201, gt a 202, gt a 203, gt a 204, gt a 205, gt a 206, gt a 207, gt a 208, gt a 209, gt a 210, gt a 211, gt a 212, gt a 213, gt a 214, gt a 215, gt a 216, gt a 217, gt a 218, gt a 219, gt a 220, gt a 221, gt a 222, gt a 223, gt a 224, gt a 225, gt a 226, gt a 227, gt a 228, gt a 229, gt a 230, gt a 231, gt a 232, gt a 233, gt a 234, gt a 235, gt a 236, gt a 237, gt a 238, gt a 239, gt a 240, gt a 241, gt a 242, gt a 243, gt a 244, gt a 245, gt a 246, gt a 247, gt a 248, gt a 249, gt a 250, gt a 251, gt a 252, gt a 253, gt a 254, gt a 255, gt a 256, gt a 257, gt a 258, gt a 259, gt a 260, gt a 261, gt a 262, gt a 263, gt a 264, gt a 265, gt a 266, gt a 267, gt a 268, gt a 269, gt a 270, gt a 271, gt a 272, gt a 273, gt a 274, gt a 275, gt a 276, gt a 277, gt a 278, gt a 279, gt a 280, gt a 281, gt a 282, gt a 283, gt a 284, gt a 285, gt a 286, gt a 287, gt a 288, gt a 289, gt a 290, gt a 291, gt a 292, gt a 293, gt a 294, gt a 295, gt a 296, gt a 297, gt a 298, gt a 299, gt a 300, gt a 301, gt a 302, gt a 303, gt a 304, gt a 305, gt a 306, gt a 307, gt a 308, gt a 309, gt a 310, gt a 311, gt a 312, gt a 313, gt a 314, gt a 315, gt a 316, gt a 317, gt a 318, gt a 319, gt a 320, gt a 321, gt a 322, gt a 323, gt a 324, gt a 325, gt a 326, gt a 327, gt a 328, gt a 329, gt a 330, gt a 331, gt a 332, gt a 333, gt a 334, gt a 335, gt a 336, gt a 337, gt a 338, gt a 339, gt a 340, gt a 341, gt a 342, gt a 343, gt a 344, gt a 345, gt a 346, gt a 347, gt a 348, gt a 349, gt a 350, gt a 351, gt a 352, gt a 353, gt a 354, gt a 355, gt a 356, gt a 357, gt a 358, gt a 359, gt a 360, gt a 361, gt a 362, gt a 363, gt a 364, gt a 365, gt a 366, gt a 367, gt a 368, gt a 369, gt a 370, gt a 371, gt a 372, gt a 373, gt a 374, gt a 375, gt a 376, gt a 377, gt a 378, gt a 379, gt a 380, gt a 381, gt a 382, gt a 383, gt a 384, gt a 385, gt a 386, gt a 387, gt a 388, gt a 389, gt a 390, gt a 391, gt a 392, gt a 393, gt a 394, gt a 395, gt a 396, gt a 397, gt a 398, gt a 399, gt a 400, gt a 401, gt a 402, gt a 403, gt a 404, gt a 405, gt a 406, gt a 407, gt a 408, gt a 409, gt a 410, gt a 411, gt a 412, gt a 413, gt a 414, gt a 415, gt a 416, gt a 417, gt a 418, gt a 419, gt a 420, gt a 421, gt a 422, gt a 423, gt a 424, gt a 425, gt a 426, gt a 427, gt a 428, gt a 429, gt a 430, gt a 431, gt a 432, gt a 433, gt a 434, gt a 435, gt a 436, gt a 437, gt a 438, gt a 439, gt a 440, gt a 441, gt a 442, gt a 443, gt a 444, gt a 445, gt a 446, gt a 447, gt a 448, gt a 449, gt a 450, gt a 451, gt a 452, gt a 453, gt a 454, gt a 455, gt a 456, gt a 457, gt a 458, gt a 459, gt a 460, gt a 461, gt a 462, gt a 463], []⟩ := act_lit 464 a h hd
/-- A frame in the header: the parser, the token, whether it is literal, the beginning's mark, the chomping, the indicator. -/
structure Fh (p t mk : Nat) (li : Bool) (ch : Int) (inc : Nat) (a : Act) : Prop where
  size : a.tmps.size = 464
  defers : a.defers = []
  s0 : gt a 0 = .pointer (some ⟨p, 0, none⟩)
  s1 : gt a 1 = .pointer (some ⟨t, 0, none⟩)
  s2 : gt a 2 = .bool li
  s7 : gt a 7 = .pointer (some ⟨mk, 0, none⟩)
  s8 : gt a 8 = .int .i64 ch
  s9 : gt a 9 = .int .i64 (inc : Nat)
/-- What does not turn. -/
structure Ch1 (k : Kn) (p mk : Nat) (s0 s1 s2 : Int) (L0 : List Value) (w1 : World) : Prop where
  round : RoundOk k p
  two : 2 < w1.heap.size
  mark : Bk w1 mk 74 [.int .i64 s0, .int .i64 s1, .int .i64 s2]
  own : mk ∉ k.bs p
  cells : Sc.Cells L0
/-- What stands in memory. -/
structure Sh (k : Kn) (p : Nat) (L0 : List Value) (w1 : World) (c u col : Nat) (rest : List Int) (w : World) : Prop where
  here : At k p L0 c u col rest w
  kp : Kp (k.bs p) w1 w
theorem Sh.drewN {k : Kn} {p : Nat} {L0 : List Value} {w1 : World} {c u col : Nat} {rest : List Int} {w : World} (h : Sh k p L0 w1 c u col rest w) (n : Nat) : Sh k p L0 w1 c u col rest (w.drewN n) := ⟨h.here.drewN n, h.kp.drewN n⟩
theorem Sh.turn {k : Kn} {p : Nat} {L0 : List Value} {w1 : World} {c u col c' u' col' : Nat} {rest rest' : List Int} {w w' : World} (h : Sh k p L0 w1 c u col rest w) (hk : Kp (k.bs p) w w') (ha : At k p L0 c' u' col' rest' w') : Sh k p L0 w1 c' u' col' rest' w' := ⟨ha, h.kp.trans hk⟩
end Go.Proofs.YtocbbekciphjgaaDoor.Bs
/- QfC -/
/- The parts of yaml_parser_scan_block_scalar_breaks, its frames, and what stands in memory. Printed by genQf.py. -/
namespace Go.Proofs.YtocbbekciphjgaaDoor.Bs
open Go.RowKit Go.Proofs.YtocbbekciphjgaaDoor.Rdp Go.Proofs.YtocbbekciphjgaaDoor.Pa Go.Proofs.YtocbbekciphjgaaDoor.Sc Go.Proofs.YtocbbekciphjgaaDoor.Qd
set_option linter.unusedVariables false
set_option linter.unusedSimpArgs false
noncomputable def bA : Code := Tryd.f124.body.getD .skip
noncomputable def b0 : Code := Qd.part [0] bA
noncomputable def b1 : Code := Qd.part [1, 0] bA
noncomputable def b2 : Code := Qd.part [1, 1, 0] bA
noncomputable def bX : Code := Qd.part [1, 1, 1, 0, 0, 0, 0] bA
noncomputable def bTa : Code := Qd.part [1, 1, 1, 1, 0] bA
noncomputable def b24 : Code := Qd.part [1, 1, 1, 1, 1, 0] bA
noncomputable def bU1 : Code := Qd.part [0] bX
noncomputable def bCi : Code := Qd.part [1, 0, 0, 0] bX
noncomputable def bM : Code := Qd.part [1, 1, 0] bX
noncomputable def bT : Code := Qd.part [1, 1, 1, 0] bX
noncomputable def bB : Code := Qd.part [1, 1, 1, 1, 0] bX
noncomputable def bU2 : Code := Qd.part [1, 1, 1, 1, 1, 0] bX
noncomputable def b16 : Code := Qd.part [1, 1, 1, 1, 1, 1, 0] bX
noncomputable def b17 : Code := Qd.part [1, 1, 1, 1, 1, 1, 1] bX
noncomputable def bH : Code := Qd.part [0] bCi
noncomputable def b6 : Code := Qd.part [1, 0, 0] bCi
noncomputable def bUI : Code := Qd.part [1, 0, 1] bCi
theorem bA_eq : bA = .seq b0 (.seq b1 (.seq b2 (.seq (.block 0 (.loop (.block 1 bX))) (.seq bTa (.seq b24 .ret))))) := by kernel_rfl
theorem bX_eq : bX = .seq bU1 (.seq (.block 2 (.loop bCi)) (.seq bM (.seq bT (.seq bB (.seq bU2 (.seq b16 b17)))))) := by kernel_rfl
theorem bCi_eq : bCi = .seq bH (.block 3 (.seq b6 bUI)) := by kernel_rfl
theorem bbody_eq : Tryd.f124.body = some bA := by kernel_rfl
set_option maxRecDepth 1000000 in
theorem lit169 (a : Act) (h : a.tmps.size = 169) (hd : a.defers = []) : a = ⟨#[gt a 0, gt a 1, gt a 2, gt a 3, gt a 4, gt a 5, gt a 6, gt a 7, gt a 8, gt a 9, gt a 10, gt a 11, gt a 12, gt a 13, gt a 14, gt a 15, gt a 16, gt a 17, gt a 18, gt a 19, gt a 20, gt a 21, gt a 22, gt a 23, gt a 24, gt a 25, gt a 26, gt a 27, gt a 28, gt a 29, gt a 30, gt a 31, gt a 32, gt a 33, gt a 34, gt a 35, gt a 36, gt a 37, gt a 38, gt a 39, gt a 40, gt a 41, gt a 42, gt a 43, gt a 44, gt a 45, gt a 46, gt a 47, gt a 48, gt a 49, gt a 50, gt a 51, gt a 52, gt a 53, gt a 54, gt a 55, gt a 56, gt a 57, gt a 58, gt a 59, gt a 60, gt a 61, gt a 62, gt a 63, gt a 64, gt a 65, gt a 66, gt a 67, gt a 68, gt a 69, gt a 70, gt a 71, gt a 72, gt a 73, gt a 74, gt a 75, gt a 76, gt a 77, gt a 78, gt a 79, gt a 80, gt a 81, gt a 82, gt a 83, gt a 84, gt a 85, gt a 86, gt a 87, gt a 88, gt a 89, gt a 90, gt a 91, gt a 92, gt a 93, gt a 94, gt a 95, gt a 96, gt a 97, gt a 98, gt a 99, gt a 100, gt a 101, gt a 102, gt a 103, gt a 104, gt a 105, gt a 106, gt a 107, gt a 108, gt a 109, gt a 110, gt a 111, gt a 112, gt a 113, gt a 114, gt a 115, gt a 116, gt a 117, gt a 118, gt a 119, gt a 120, gt a 121, gt a 122, gt a 123, gt a 124, gt a 125, gt a 126, gt a 127, gt a 128, gt a 129, gt a 130, gt a 131, gt a 132, gt a 133, gt a 134, gt a 135, gt a 136, gt a 137, gt a 138, gt a 139, gt a 140, gt a 141, gt a 142, gt a 143, gt a 144, gt a 145, gt a 146, gt a 147, gt a 148, gt a 149, gt a 150, gt a 151, gt a 152, gt a 153, gt a 154, gt a 155, gt a 156, gt a 157, gt a 158, gt a 159, gt a 160, gt a 161, gt a 162, gt a 163, gt a 164, gt a 165, gt a 166, gt a 167, gt a 168], []⟩ := act_lit 169 a h hd
/-- A frame: the parser, where the indentation, the breaks and the end's mark lie, the greatest column. -/
structure Fb (p ib bb eb mx : Nat) (a : Act) : Prop where
  size : a.tmps.size = 169
  defers : a.defers = []
  s0 : gt a 0 = .pointer (some ⟨p, 0, none⟩)
  s1 : gt a 1 = .pointer (some ⟨ib, 0, none⟩)
  s2 : gt a 2 = .pointer (some ⟨bb, 0, none⟩)
  s4 : gt a 4 = .pointer (some ⟨eb, 0, none⟩)
  s11 : gt a 11 = .int .i64 (mx : Nat)
/-- What does not turn. -/
structure Cb (k : Kn) (p lo ib bb eb : Nat) (L0 : List Value) (pn : Int) : Prop where
  round : RoundOk k p
  fi : Far k p ib
  fb : Far k p bb
  fe : Far k p eb
  far : ∀ g, lo ≤ g → Far k p g
  li : ib < lo
  lb : bb < lo
  le : eb < lo
  n1 : ib ≠ bb
  n2 : ib ≠ eb
  n3 : bb ≠ eb
  ind : L0[41]? = some (.int .i64 pn)
  pn0 : -1 ≤ pn
  pn1 : pn ≤ 1000000
  two : 2 < lo
/-- Where it writes. -/
def bks (k : Kn) (p ib bb eb : Nat) (v1 : Value) : List Nat := ib :: bb :: eb :: (k.bs p ++ v1.ownBlock.toList)
/-- What stands in memory. -/
structure Sb (k : Kn) (p lo ib bb eb : Nat) (L0 : List Value) (w1 : World) (v1 : Value) (c u col : Nat) (rest : List Int) (d tb : Nat) (v : Value) (w : World) : Prop where
  here : At k p L0 c u col rest w
  bi : Bk w ib 3 [.int .i64 (d : Nat)]
  bv : Bk w bb 22 [v]
  be : ∃ e0 e1 e2 : Int, Bk w eb 74 [.int .i64 e0, .int .i64 e1, .int .i64 e2]
  row : Row lo w v (nls tb)
  grew : Grew w1 v1 v
  kp : Kp (bks k p ib bb eb v1) w1 w
  lo1 : lo ≤ w1.heap.size
  sz : tb ≤ 4 * c
theorem Sb.drewN {k : Kn} {p lo ib bb eb : Nat} {L0 : List Value} {w1 : World} {v1 : Value} {c u col : Nat} {rest : List Int} {d tb : Nat} {v : Value} {w : World} (h : Sb k p lo ib bb eb L0 w1 v1 c u col rest d tb v w) (n : Nat) : Sb k p lo ib bb eb L0 w1 v1 c u col rest d tb v (w.drewN n) :=
  ⟨h.here.drewN n, h.bi, h.bv, h.be, h.row, h.grew, h.kp.drewN n, h.lo1, h.sz⟩
theorem Sb.turn {k : Kn} {p lo ib bb eb : Nat} {L0 : List Value} {pn : Int} (hC : Cb k p lo ib bb eb L0 pn) {w1 : World} {v1 : Value} {c u col c' u' col' : Nat} {rest rest' : List Int} {d tb : Nat} {v : Value} {w w' : World} (h : Sb k p lo ib bb eb L0 w1 v1 c u col rest d tb v w) (hk : Kp (k.bs p) w w') (ha : At k p L0 c' u' col' rest' w') (hc : c ≤ c') : Sb k p lo ib bb eb L0 w1 v1 c' u' col' rest' d tb v w' := by
  obtain ⟨e0, e1, e2, he⟩ := h.be
  exact ⟨ha, h.bi.kp hk hC.fi.1, h.bv.kp hk hC.fb.1, ⟨e0, e1, e2, he.kp hk hC.fe.1⟩, h.row.kp hk (fun b hb hh => (hC.far b (h.row.own b hb).1).1 hh), h.grew, h.kp.trans (hk.mono (fun b hb => by unfold bks; simp [hb])), h.lo1, by have := h.sz; omega⟩
/-- A break has been read. -/
theorem Sb.fed {k : Kn} {p lo ib bb eb : Nat} {L0 : List Value} {pn : Int} (hC : Cb k p lo ib bb eb L0 pn) {w1 : World} {v1 : Value} {c u col u' : Nat} {rest rest' : List Int} {d tb : Nat} {v v' : Value} {w w' : World} (h : Sb k p lo ib bb eb L0 w1 v1 c u col rest d tb v w) (ha : At k p L0 (c + 1) u' 0 rest' w') (hg : Gave k p lo v v' (nls tb ++ [10]) w w') :
    Bk w' bb 22 [v] ∧ Sb k p lo ib bb eb L0 w1 v1 (c + 1) u' 0 rest' d (tb + 1) v' (w'.setCell ⟨bb, 0, none⟩ v') := by
  obtain ⟨g1, g2, ps, g3, g4⟩ := hg
  have no : ∀ b, b < lo → b ∉ k.bs p → b ∉ ps := fun b hb hn hh => by
    rcases g4 b hh with g | g
    · exact hn g
    · have := (h.row.own b g).1
      omega
  have nb := no bb hC.lb hC.fb.1
  have hv := h.bv.kp g3 nb
  obtain ⟨e0, e1, e2, he⟩ := h.be
  have hkb : Kp [bb] w' (w'.setCell ⟨bb, 0, none⟩ v') := (Kp.refl _ _).setCell bb 0 v' (by simp)
  refine ⟨hv, ha.far hkb (by intro b hb; rw [List.mem_singleton] at hb; rw [hb]; exact hC.fb), ?_, hv.set 0 v', ⟨e0, e1, e2, ?_⟩, ?_, ?_, ?_, h.lo1, by have := h.sz; omega⟩
  · exact (h.bi.kp g3 (no ib hC.li hC.fi.1)).kp hkb (by simp; exact hC.n1)
  · exact (he.kp g3 (no eb hC.le hC.fe.1)).kp hkb (by simp; exact Ne.symm hC.n3)
  · have e : nls (tb + 1) = nls tb ++ [10] := by unfold nls; rw [List.replicate_succ']
    rw [e]
    exact g1.kp hkb (fun b hb hh => by
      rw [List.mem_singleton] at hh
      have := (g1.own b hb).1
      have := hC.lb
      omega)
  · rcases g2 with q | ⟨g, q1, q2⟩
    · rcases h.grew with r | ⟨g', r1, r2⟩
      · exact .inl (q.trans r)
      · exact .inr ⟨g', q.trans r1, r2⟩
    · exact .inr ⟨g, q1, Nat.le_trans h.kp.size q2⟩
  · refine Kp.trans (Sc.Kp.trans_new h.kp g3 (fun b hb => ?_)) (hkb.mono (fun b hb => by rw [List.mem_singleton] at hb; rw [hb]; unfold bks; simp))
    rcases g4 b hb with q | q
    · exact .inl (by unfold bks; simp [q])
    · rcases h.grew with r | ⟨g', r1, r2⟩
      · rw [r] at q
        exact .inl (by unfold bks; simp [q])
      · rw [r1] at q
        cases q
        exact .inr r2
/-- The end's mark has been noted. -/
theorem Sb.noted {k : Kn} {p lo ib bb eb : Nat} {L0 : List Value} {pn : Int} (hC : Cb k p lo ib bb eb L0 pn) {w1 : World} {v1 : Value} {c u col : Nat} {rest : List Int} {d tb : Nat} {v : Value} {w : World} (h : Sb k p lo ib bb eb L0 w1 v1 c u col rest d tb v w) (x0 x1 x2 : Int) :
    Sb k p lo ib bb eb L0 w1 v1 c u col rest d tb v (((w.setCell ⟨eb, 0, none⟩ (.int .i64 x0)).setCell ⟨eb, 1, none⟩ (.int .i64 x1)).setCell ⟨eb, 2, none⟩ (.int .i64 x2)) := by
  obtain ⟨e0, e1, e2, he⟩ := h.be
  have hk : Kp [eb] w (((w.setCell ⟨eb, 0, none⟩ (.int .i64 x0)).setCell ⟨eb, 1, none⟩ (.int .i64 x1)).setCell ⟨eb, 2, none⟩ (.int .i64 x2)) := (((Kp.refl _ _).setCell eb 0 _ (by simp)).setCell eb 1 _ (by simp)).setCell eb 2 _ (by simp)
  refine ⟨h.here.far hk (by intro b hb; rw [List.mem_singleton] at hb; rw [hb]; exact hC.fe), h.bi.kp hk (by simp; exact hC.n2), h.bv.kp hk (by simp; exact hC.n3), ⟨x0, x1, x2, ((he.set 0 _).set 1 _).set 2 _⟩, ?_, h.grew, h.kp.trans (hk.mono (fun b hb => by rw [List.mem_singleton] at hb; rw [hb]; unfold bks; simp)), h.lo1, h.sz⟩
  exact h.row.kp hk (fun b hb hh => by
    rw [List.mem_singleton] at hh
    have := (h.row.own b hb).1
    have := hC.le
    omega)
/-- The indentation has been noted. -/
theorem Sb.told {k : Kn} {p lo ib bb eb : Nat} {L0 : List Value} {pn : Int} (hC : Cb k p lo ib bb eb L0 pn) {w1 : World} {v1 : Value} {c u col : Nat} {rest : List Int} {d tb : Nat} {v : Value} {w : World} (h : Sb k p lo ib bb eb L0 w1 v1 c u col rest d tb v w) (d' : Nat) :
    Sb k p lo ib bb eb L0 w1 v1 c u col rest d' tb v (w.setCell ⟨ib, 0, none⟩ (.int .i64 (d' : Nat))) := by
  obtain ⟨e0, e1, e2, he⟩ := h.be
  have hk : Kp [ib] w (w.setCell ⟨ib, 0, none⟩ (.int .i64 (d' : Nat))) := (Kp.refl _ _).setCell ib 0 _ (by simp)
  refine ⟨h.here.far hk (by intro b hb; rw [List.mem_singleton] at hb; rw [hb]; exact hC.fi), h.bi.set 0 _, h.bv.kp hk (by simp; exact Ne.symm hC.n1), ⟨e0, e1, e2, he.kp hk (by simp; exact Ne.symm hC.n2)⟩, ?_, h.grew, h.kp.trans (hk.mono (fun b hb => by rw [List.mem_singleton] at hb; rw [hb]; unfold bks; simp)), h.lo1, h.sz⟩
  exact h.row.kp hk (fun b hb hh => by
    rw [List.mem_singleton] at hh
    have := (h.row.own b hb).1
    have := hC.li
    omega)
/-- Is there a sign at a column where the indentation still goes on? -/
def spq (d col : Nat) (x y : Int) : Bool := (d == 0 || decide (col < d)) && x == y
/-- The indentation, in the end. -/
def ind (d m : Nat) (pn : Int) : Nat := if d = 0 then max (max m (pn + 1).toNat) 1 else d
theorem spq_no {d col : Nat} {x y : Int} (h : (d = 0 ∨ col < d) → x ≠ y) : spq d col x y = false := by
  unfold spq
  by_cases h0 : d = 0
  · rw [show (x == y) = false by simpa using h (.inl h0)]; simp
  by_cases h1 : col < d
  · rw [show (x == y) = false by simpa using h (.inr h1)]; simp
  · simp [h0, h1]
theorem spq_yes {d col : Nat} {x y : Int} (h : spq d col x y = true) : (d = 0 ∨ col < d) ∧ x = y := by
  unfold spq at h
  simpa using h
end Go.Proofs.YtocbbekciphjgaaDoor.Bs
