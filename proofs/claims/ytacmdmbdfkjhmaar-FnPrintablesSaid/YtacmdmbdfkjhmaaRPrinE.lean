/- For every character up to 0xFFFF that is no surrogate, but tab, CR and NEL: the class of what may be printed, as the thin package tells it of its bytes, is the reference's; others are let by. -/
import Derived.Test.YtacmdmbdfkjhmaaRPrinD
namespace Go.Proofs.YtacmdmbdfkjhmaaR.Prin
open Go.RowKit
set_option linter.unusedVariables false
/-- The reference's characters. -/
def pr (c : Int) : Bool := decide (c = 10 ∨ (32 ≤ c ∧ c ≤ 126) ∨ (160 ≤ c ∧ c ≤ 55295) ∨ (57344 ≤ c ∧ c ≤ 65533 ∧ c ≠ 65279))

set_option maxHeartbeats 1000000 in
set_option maxRecDepth 100000 in
theorem r_lf (c : Int) (hlo : 10 ≤ c) (hhi : c ≤ 10) (h0 : (c == 9) = false) (h1 : (c == 10) = true) (h2 : (c == 13) = false) (h3 : (c == 133) = false) (h4 : (c == 65279) = false) (w : World) :
    Calls Try.prog 22 #[.int .i64 c] w fun e w' => e = .returned (.bool true) ∧ w = w' := by
  have hne : (c != 65279) = true := by simpa using h4
  go_enter Try.func22, Try.ntmps22
  try simp only [List.append]
  go_wp2_with fail
  go_ret
  first | exact ⟨rfl, rfl⟩ | exact ⟨ret_b (by simp; omega), rfl⟩

set_option maxHeartbeats 1000000 in
set_option maxRecDepth 100000 in
theorem r_a (c : Int) (hlo : 0 ≤ c) (hhi : c ≤ 31) (h0 : (c == 9) = false) (h1 : (c == 10) = false) (h2 : (c == 13) = false) (h3 : (c == 133) = false) (h4 : (c == 65279) = false) (w : World) :
    Calls Try.prog 22 #[.int .i64 c] w fun e w' => e = .returned (.bool false) ∧ w = w' := by
  have hne : (c != 65279) = true := by simpa using h4
  go_enter Try.func22, Try.ntmps22
  try simp only [List.append]
  go_wp2_with fail
  go_ret
  first | exact ⟨rfl, rfl⟩ | exact ⟨ret_b (by simp; omega), rfl⟩

set_option maxHeartbeats 1000000 in
set_option maxRecDepth 100000 in
theorem r_b (c : Int) (hlo : 32 ≤ c) (hhi : c ≤ 126) (h0 : (c == 9) = false) (h1 : (c == 10) = false) (h2 : (c == 13) = false) (h3 : (c == 133) = false) (h4 : (c == 65279) = false) (w : World) :
    Calls Try.prog 22 #[.int .i64 c] w fun e w' => e = .returned (.bool true) ∧ w = w' := by
  have hne : (c != 65279) = true := by simpa using h4
  go_enter Try.func22, Try.ntmps22
  try simp only [List.append]
  go_wp2_with fail
  go_ret
  first | exact ⟨rfl, rfl⟩ | exact ⟨ret_b (by simp; omega), rfl⟩

set_option maxHeartbeats 1000000 in
set_option maxRecDepth 100000 in
theorem r_c (c : Int) (hlo : 127 ≤ c) (hhi : c ≤ 159) (h0 : (c == 9) = false) (h1 : (c == 10) = false) (h2 : (c == 13) = false) (h3 : (c == 133) = false) (h4 : (c == 65279) = false) (w : World) :
    Calls Try.prog 22 #[.int .i64 c] w fun e w' => e = .returned (.bool false) ∧ w = w' := by
  have hne : (c != 65279) = true := by simpa using h4
  go_enter Try.func22, Try.ntmps22
  try simp only [List.append]
  go_wp2_with fail
  go_ret
  first | exact ⟨rfl, rfl⟩ | exact ⟨ret_b (by simp; omega), rfl⟩

set_option maxHeartbeats 1000000 in
set_option maxRecDepth 100000 in
theorem r_d (c : Int) (hlo : 160 ≤ c) (hhi : c ≤ 55295) (h0 : (c == 9) = false) (h1 : (c == 10) = false) (h2 : (c == 13) = false) (h3 : (c == 133) = false) (h4 : (c == 65279) = false) (w : World) :
    Calls Try.prog 22 #[.int .i64 c] w fun e w' => e = .returned (.bool true) ∧ w = w' := by
  have hne : (c != 65279) = true := by simpa using h4
  go_enter Try.func22, Try.ntmps22
  try simp only [List.append]
  go_wp2_with fail
  go_ret
  first | exact ⟨rfl, rfl⟩ | exact ⟨ret_b (by simp; omega), rfl⟩

set_option maxHeartbeats 1000000 in
set_option maxRecDepth 100000 in
theorem r_e (c : Int) (hlo : 57344 ≤ c) (hhi : c ≤ 65533) (h0 : (c == 9) = false) (h1 : (c == 10) = false) (h2 : (c == 13) = false) (h3 : (c == 133) = false) (h4 : (c == 65279) = false) (w : World) :
    Calls Try.prog 22 #[.int .i64 c] w fun e w' => e = .returned (.bool true) ∧ w = w' := by
  have hne : (c != 65279) = true := by simpa using h4
  go_enter Try.func22, Try.ntmps22
  try simp only [List.append]
  go_wp2_with fail
  go_ret
  first | exact ⟨rfl, rfl⟩ | exact ⟨ret_b (by simp; omega), rfl⟩

set_option maxHeartbeats 1000000 in
set_option maxRecDepth 100000 in
theorem r_f (c : Int) (hlo : 65279 ≤ c) (hhi : c ≤ 65279) (h0 : (c == 9) = false) (h1 : (c == 10) = false) (h2 : (c == 13) = false) (h3 : (c == 133) = false) (h4 : (c == 65279) = true) (w : World) :
    Calls Try.prog 22 #[.int .i64 c] w fun e w' => e = .returned (.bool false) ∧ w = w' := by
  go_enter Try.func22, Try.ntmps22
  try simp only [List.append]
  go_wp2_with fail
  go_ret
  first | exact ⟨rfl, rfl⟩ | exact ⟨ret_b (by simp; omega), rfl⟩

set_option maxHeartbeats 1000000 in
set_option maxRecDepth 100000 in
theorem r_g (c : Int) (hlo : 65534 ≤ c) (hhi : c ≤ 65535) (h0 : (c == 9) = false) (h1 : (c == 10) = false) (h2 : (c == 13) = false) (h3 : (c == 133) = false) (h4 : (c == 65279) = false) (w : World) :
    Calls Try.prog 22 #[.int .i64 c] w fun e w' => e = .returned (.bool false) ∧ w = w' := by
  have hne : (c != 65279) = true := by simpa using h4
  go_enter Try.func22, Try.ntmps22
  try simp only [List.append]
  go_wp2_with fail
  go_ret
  first | exact ⟨rfl, rfl⟩ | exact ⟨ret_b (by simp; omega), rfl⟩

theorem printable_any (c : Int) (h0 : 0 ≤ c) (h1 : c ≤ 65535) (hs : ¬ (55296 ≤ c ∧ c < 57344)) (h9 : c ≠ 9) (h13 : c ≠ 13) (h133 : c ≠ 133) (w : World) :
    Calls Try.prog 22 #[.int .i64 c] w fun e w' => e = .returned (.bool (pr c)) ∧ w = w' := by
  have nb : ∀ {a b : Int}, a ≠ b → (a == b) = false := fun h => by simpa using h
  by_cases a : c = 10
  · subst a; exact r_lf 10 (by omega) (by omega) rfl rfl rfl rfl rfl w
  by_cases b : c ≤ 31
  · have : pr c = false := by unfold pr; rw [decide_eq_false_iff_not]; omega
    rw [this]; exact r_a c h0 b (nb h9) (nb a) (nb h13) (nb h133) (nb (by omega)) w
  by_cases d : c ≤ 126
  · have : pr c = true := by unfold pr; rw [decide_eq_true_eq]; omega
    rw [this]; exact r_b c (by omega) d (nb h9) (nb a) (nb h13) (nb h133) (nb (by omega)) w
  by_cases e : c ≤ 159
  · have : pr c = false := by unfold pr; rw [decide_eq_false_iff_not]; omega
    rw [this]; exact r_c c (by omega) e (nb h9) (nb a) (nb h13) (nb h133) (nb (by omega)) w
  by_cases f : c ≤ 55295
  · have : pr c = true := by unfold pr; rw [decide_eq_true_eq]; omega
    rw [this]; exact r_d c (by omega) f (nb h9) (nb a) (nb h13) (nb h133) (nb (by omega)) w
  by_cases g : c = 65279
  · subst g; exact r_f 65279 (by omega) (by omega) rfl rfl rfl rfl rfl w
  by_cases i : c ≤ 65533
  · have : pr c = true := by unfold pr; rw [decide_eq_true_eq]; omega
    rw [this]; exact r_e c (by omega) i (nb h9) (nb a) (nb h13) (nb h133) (nb g) w
  · have : pr c = false := by unfold pr; rw [decide_eq_false_iff_not]; omega
    rw [this]; exact r_g c (by omega) h1 (nb h9) (nb a) (nb h13) (nb h133) (nb g) w
set_option maxHeartbeats 4000000 in
theorem agree (c : Int) (h0 : 0 ≤ c) (h1 : c ≤ 65535) (hs : ¬ (55296 ≤ c ∧ c < 57344)) (h9 : c ≠ 9) (h13 : c ≠ 13) (h133 : c ≠ 133) :
    pb ((enc8 c).getD 0 0) ((enc8 c).getD 1 0) ((enc8 c).getD 2 0) = pr c := by
  unfold enc8
  by_cases a : c < 128
  · simp only [a, if_true]
    show pb c 0 0 = pr c
    unfold pb pr
    repeat' split
    all_goals
      symm
      first
        | (simp only [decide_eq_true_eq]; omega)
        | (simp only [decide_eq_false_iff_not]; omega)
        | (rw [Bool.eq_iff_iff]; simp; omega)
  · by_cases b : c < 2048
    · simp only [a, b, if_false, if_true]
      show pb (192 + c / 64) (128 + c % 64) 0 = pr c
      unfold pb pr
      repeat' split
      all_goals
        symm
        first
          | (simp only [decide_eq_true_eq]; omega)
          | (simp only [decide_eq_false_iff_not]; omega)
          | (rw [Bool.eq_iff_iff]; simp only [decide_eq_true_eq]; omega)
          | (rw [Bool.eq_iff_iff]; simp; omega)
    · simp only [a, b, if_false]
      show pb (224 + c / 4096) (128 + c / 64 % 64) (128 + c % 64) = pr c
      unfold pb pr
      repeat' split
      all_goals
        symm
        first
          | (simp only [decide_eq_true_eq]; omega)
          | (simp only [decide_eq_false_iff_not]; omega)
          | (rw [Bool.eq_iff_iff]; simp only [decide_eq_true_eq]; omega)
          | (rw [Bool.eq_iff_iff]; simp; omega)
theorem enc8_range (c : Int) (h0 : 0 ≤ c) (h1 : c ≤ 65535) : (∀ x ∈ enc8 c, 0 ≤ x ∧ x ≤ 255) ∧ 1 ≤ (enc8 c).length ∧ (enc8 c).length ≤ 3 := by
  unfold enc8
  by_cases a : c < 128
  · simp [a]; omega
  · by_cases b : c < 2048
    · simp [a, b]; omega
    · simp [a, b]; omega
set_option maxHeartbeats 1000000 in
set_option maxRecDepth 100000 in
theorem law_in (c : Int) (h0 : 0 ≤ c) (h1 : c ≤ 65535) (hs : c < 55296 ∨ 57344 ≤ c) (h9 : (c == 9) = false) (h13 : (c == 13) = false) (h133 : (c == 133) = false) (w : World) :
    Calls Try.prog 8 #[.int .i64 c] w fun e w' => e = .returned (.bool true) ∧ Below w.heap.size w w' := by
  have n9 : c ≠ 9 := by simpa using h9
  have n13 : c ≠ 13 := by simpa using h13
  have n133 : c ≠ 133 := by simpa using h133
  obtain ⟨hr, hl1, hl3⟩ := enc8_range c h0 h1
  have HA := Lib.hid (agree c h0 h1 (by omega) n9 n13 n133)
  have HP := Lib.hid (fun w => printable_any c h0 h1 (by omega) n9 n13 n133 w)
  have HR := Lib.hid hr
  have HE := Lib.hid (encode_any w.heap.size 1 c h0 h1 (w.alloc (.cells #[.int .i64 c] 3)) (by simp [World.cell?_alloc_new]) (by simp))
  clear hr n9 n13 n133
  rcases hs with hs | hs
  all_goals
    go_enter Try.func8, Try.ntmps8
    try simp only [List.append]
    go_wp2_with fail
    refine HE.out.mono ?_
    rintro e w1 ⟨g, cap, rfl, hcell, hb⟩
    have hb0 : Below w.heap.size w w1 := ((Below.refl _ _).alloc (Nat.le_refl _) _).trans (hb.mono (by simp))
    have HC := Lib.hid (class_any g 0 (enc8 c).length cap (enc8 c) rfl hl1 hl3 HR.out w1 (fun j hj => by have := hcell j hj; rw [Nat.zero_add]; exact this))
    have HB := Lib.hid hb0
    clear hcell hb hb0
    go_wp2_with fail
    refine HC.out.mono ?_
    rintro e w2 ⟨rfl, hb2⟩
    have HB2 := Lib.hid (HB.out.trans (hb2.mono HB.out.size))
    clear hb2
    go_wp2_with fail
    refine (HP.out _).mono ?_
    rintro e w3 ⟨rfl, rfl⟩
    go_wp2_with fail
    go_ret
    exact ⟨ret_b (by have := HA.out; simp only [List.getD_eq_getElem?_getD] at this; rw [this]; simp), HB2.out⟩
set_option maxHeartbeats 1000000 in
set_option maxRecDepth 100000 in
theorem walk (c : Int) (w : World) : Calls Try.prog 8 #[.int .i64 c] w fun e w' => e = .returned (.bool true) ∧ Below w.heap.size w w' := by
  have nb : ∀ {a b : Int}, a ≠ b → (a == b) = false := fun h => by simpa using h
  by_cases a : c < 0
  · go_enter Try.func8, Try.ntmps8
    try simp only [List.append]
    go_wp2_with fail
    go_ret
    exact ⟨rfl, Below.refl _ _⟩
  by_cases b : 65535 < c
  · go_enter Try.func8, Try.ntmps8
    try simp only [List.append]
    go_wp2_with fail
    go_ret
    exact ⟨rfl, Below.refl _ _⟩
  by_cases d : 55296 ≤ c ∧ c < 57344
  · obtain ⟨d1, d2⟩ := d
    go_enter Try.func8, Try.ntmps8
    try simp only [List.append]
    go_wp2_with fail
    go_ret
    exact ⟨rfl, Below.refl _ _⟩
  have d' : c < 55296 ∨ 57344 ≤ c := by omega
  cases e : (c == 9) with
  | true =>
    have e' : c = 9 := by simpa using e
    subst e'
    go_enter Try.func8, Try.ntmps8
    try simp only [List.append]
    go_wp2_with fail
    go_ret
    exact ⟨rfl, Below.refl _ _⟩
  | false =>
  cases f : (c == 13) with
  | true =>
    have e' : c = 13 := by simpa using f
    subst e'
    go_enter Try.func8, Try.ntmps8
    try simp only [List.append]
    go_wp2_with fail
    go_ret
    exact ⟨rfl, Below.refl _ _⟩
  | false =>
  cases g : (c == 133) with
  | true =>
    have e' : c = 133 := by simpa using g
    subst e'
    go_enter Try.func8, Try.ntmps8
    try simp only [List.append]
    go_wp2_with fail
    go_ret
    exact ⟨rfl, Below.refl _ _⟩
  | false => exact law_in c (by omega) (by omega) d' e f g w

end Go.Proofs.YtacmdmbdfkjhmaaR.Prin
