/- QeH, ScI, ScJ, QeI, QeJ: parts of the proof, one behind another. -/
import Derived.Handy
import Derived.Laws.BytesArg
import Derived.Laws.IdiomStrings
import Derived.Test.YtocbbekciphjgaaDoorMz6
import Derived.Test.YtocbbekciphjgaaDoorMz31
import Derived.Test.YtocbbekciphjgaaDoorMz41
/- QeH -/
/- An escape in the reference (scEscape): walked. -/
namespace Go.Proofs.YtocbbekciphjgaaDoor.Dq
open Go.RowKit Go.Proofs.YtocbbekciphjgaaDoor.Pa Go.Proofs.YtocbbekciphjgaaDoor.Sc Go.Proofs.YtocbbekciphjgaaDoor.Qd
set_option linter.unusedVariables false
set_option linter.unusedSimpArgs false
/-- What an escape is told to be. -/
def EscP (zs : List Int) (i : Nat) (e : Ending) : Prop :=
  (∃ (x : Int) (j : Nat), e = .returned (.tuple #[.int .i32 x, .int .i64 j, .bool true]) ∧ Esc (zs.drop (i + 1)) x (zs.drop j) ∧ i + 2 ≤ j ∧ j ≤ zs.length ∧ 0 ≤ x ∧ x ≤ 1114111) ∨
  ((∃ (x : Int) (j : Int), e = .returned (.tuple #[.int .i32 x, .int .i64 j, .bool false])) ∧ ∀ x at', ¬ Esc (zs.drop (i + 1)) x at')
theorem long_le (y : Int) : long y = 0 ∨ long y = 2 ∨ long y = 4 ∨ long y = 8 := by
  unfold long
  repeat' split
  all_goals simp
theorem named_range {c x : Int} (h : named c = some x) : 0 ≤ x ∧ x ≤ 8233 := by
  unfold named at h
  by_cases q0 : c = 48
  · rw [if_pos q0] at h
    cases h
    omega
  rw [if_neg q0] at h
  by_cases q1 : c = 97
  · rw [if_pos q1] at h
    cases h
    omega
  rw [if_neg q1] at h
  by_cases q2 : c = 98
  · rw [if_pos q2] at h
    cases h
    omega
  rw [if_neg q2] at h
  by_cases q3 : c = 116 ∨ c = 9
  · rw [if_pos q3] at h
    cases h
    omega
  rw [if_neg q3] at h
  by_cases q4 : c = 110
  · rw [if_pos q4] at h
    cases h
    omega
  rw [if_neg q4] at h
  by_cases q5 : c = 118
  · rw [if_pos q5] at h
    cases h
    omega
  rw [if_neg q5] at h
  by_cases q6 : c = 102
  · rw [if_pos q6] at h
    cases h
    omega
  rw [if_neg q6] at h
  by_cases q7 : c = 114
  · rw [if_pos q7] at h
    cases h
    omega
  rw [if_neg q7] at h
  by_cases q8 : c = 101
  · rw [if_pos q8] at h
    cases h
    omega
  rw [if_neg q8] at h
  by_cases q9 : c = 32 ∨ c = 34 ∨ c = 92
  · rw [if_pos q9] at h
    cases h
    omega
  rw [if_neg q9] at h
  by_cases q10 : c = 78
  · rw [if_pos q10] at h
    cases h
    omega
  rw [if_neg q10] at h
  by_cases q11 : c = 95
  · rw [if_pos q11] at h
    cases h
    omega
  rw [if_neg q11] at h
  by_cases q12 : c = 76
  · rw [if_pos q12] at h
    cases h
    omega
  rw [if_neg q12] at h
  by_cases q13 : c = 80
  · rw [if_pos q13] at h
    cases h
    omega
  rw [if_neg q13] at h
  cases h
set_option maxHeartbeats 8000000 in
set_option maxRecDepth 100000 in
theorem escape_any (zs : List Int) (b cp i : Nat) (w : World) (hz : Zs w b zs) (hi : i < zs.length) (hcp : zs.length ≤ cp) (hm : zs.length ≤ 1000000 ∧ cp ≤ 9223372036854775807) (hch : ∀ x ∈ zs, 0 ≤ x ∧ x ≤ 1114111) :
    Calls Tryd.prog 46 #[.slice (some ⟨b, 0, none⟩) zs.length cp, .int .i64 i] w fun e w' => EscP zs i e ∧ w' = w := by
  have j0 : (0 : Int) ≤ (i : Int) := by omega
  have j1 : (i : Int) < (zs.length : Int) := by omega
  have j2 : (zs.length : Int) ≤ (cp : Int) := by omega
  obtain ⟨hm1, hm2⟩ := hm
  have j3 : (cp : Int) ≤ 9223372036854775807 := by omega
  have j3' : (zs.length : Int) ≤ 1000000 := by omega
  by_cases hl : i + 1 = zs.length
  · have j4 : ((i : Int) + 1 == (zs.length : Int)) = true := by rw [beq_iff_eq]; omega
    go_enter Tryd.func46, Tryd.ntmps46
    go_wp2_with fail
    refine bodyPost_ret (by simp [results, Tryd.results46, go_sem]; try rfl) rfl ?_
    refine ⟨.inr ⟨⟨_, _, rfl⟩, fun x at' h => ?_⟩, rfl⟩
    rw [List.drop_of_length_le (by omega)] at h
    cases h
  have j4 : ((i : Int) + 1 == (zs.length : Int)) = false := by rw [beq_eq_false_iff_ne]; omega
  have j5 : (i : Int) + 1 < (zs.length : Int) := by omega
  have hy := hz (i + 1) (by omega)
  have hd := drop_at (zs := zs) (i := i + 1) (by omega)
  have hyr : 0 ≤ zs.getD (i + 1) 0 ∧ zs.getD (i + 1) 0 ≤ 1114111 := by
    rw [List.getD_eq_getElem?_getD, List.getElem?_eq_getElem (show i + 1 < zs.length by omega)]
    exact hch _ (List.getElem_mem _)
  obtain ⟨y, HY⟩ : ∃ y, Hid (zs.getD (i + 1) 0 = y) := ⟨_, rfl⟩
  rw [HY.out] at hy hd hyr
  have hlg := fun W => long_any y W
  obtain ⟨n, hn⟩ : ∃ n, long y = n := ⟨_, rfl⟩
  rw [hn] at hlg
  have hn8 : n = 0 ∨ n = 2 ∨ n = 4 ∨ n = 8 := by rw [← hn]; exact long_le y
  have HLG := Lib.hid hlg
  have HD := Lib.hid hd
  have HN := Lib.hid hn
  have HZ := Lib.hid hz
  have HCH := Lib.hid hch
  clear hlg hd hn hch
  by_cases h0 : n = 0
  · subst h0
    have hnm := fun W => named_any y W
    have HNM := Lib.hid hnm
    clear hnm hz
    cases hne : named y with
    | none =>
      have hv : namei y = -1 := by unfold namei; rw [hne]; rfl
      rw [hv] at HNM
      have HNE := Lib.hid hne
      clear hne hv hn8
      go_enter Tryd.func46, Tryd.ntmps46
      go_wp2_with fail
      refine (HLG.out _).mono ?_
      rintro e w1 ⟨rfl, rfl⟩
      go_wp2_with fail
      refine (HNM.out _).mono ?_
      rintro e w1 ⟨rfl, rfl⟩
      go_wp2_with fail
      refine bodyPost_ret (by simp [results, Tryd.results46, go_sem]; try rfl) rfl ?_
      refine ⟨.inr ⟨⟨_, _, rfl⟩, fun x at' h => ?_⟩, rfl⟩
      rw [HD.out] at h
      generalize hl : y :: zs.drop (i + 1 + 1) = l at h
      cases h with
      | name g =>
        obtain ⟨rfl, _⟩ := List.cons.inj hl
        rw [HNE.out] at g
        cases g
      | num g1 g2 g3 g4 g5 =>
        obtain ⟨rfl, _⟩ := List.cons.inj hl
        have := HN.out
        omega
    | some x =>
      have hv : namei y = x := by unfold namei; rw [hne]; rfl
      rw [hv] at HNM
      have hxr := named_range hne
      have HNE := Lib.hid hne
      obtain ⟨x0, x1⟩ := hxr
      have hdx : decide (0 ≤ x) = true := by simp; omega
      clear hne hv hn8
      go_enter Tryd.func46, Tryd.ntmps46
      go_wp2_with fail
      refine (HLG.out _).mono ?_
      rintro e w1 ⟨rfl, rfl⟩
      go_wp2_with fail
      refine (HNM.out _).mono ?_
      rintro e w1 ⟨rfl, rfl⟩
      go_wp2_with fail
      refine bodyPost_ret (by simp [results, Tryd.results46, go_sem]; try rfl) rfl ?_
      refine ⟨.inl ⟨x, i + 2, rfl, ?_, Nat.le_refl _, by omega, x0, by omega⟩, rfl⟩
      rw [HD.out]
      exact .name HNE.out
  have jn : ((n : Int) == 0) = false := by rw [beq_eq_false_iff_ne]; omega
  have jn8 : (n : Int) ≤ 8 := by omega
  have jn0 : (0 : Int) ≤ (n : Int) := by omega
  -- no escape but by number
  have hnum : ∀ x at', Esc (zs.drop (i + 1)) x at' → ∃ ds, zs.drop (i + 2) = ds ++ at' ∧ ds.length = n ∧ Hex ds x ∧ x ≤ 1114111 ∧ (x < 55296 ∨ 57343 < x) := by
    intro x at' h
    rw [HD.out] at h
    generalize hl : y :: zs.drop (i + 1 + 1) = l at h
    cases h with
    | name g =>
      obtain ⟨rfl, _⟩ := List.cons.inj hl
      have h1 := named_long g
      have h2 := HN.out
      omega
    | num g1 g2 g3 g4 g5 =>
      obtain ⟨rfl, hr⟩ := List.cons.inj hl
      exact ⟨_, hr, by rw [g2]; exact HN.out, g3, g4, g5⟩
  have HNUM := Lib.hid hnum
  clear hnum
  by_cases hlen : zs.length < i + 2 + n
  · have j6 : (zs.length : Int) < (i : Int) + 2 + (n : Int) := by omega
    have j7 : decide ((zs.length : Int) < (i : Int) + 2 + (n : Int)) = true := by simp; omega
    clear hn8
    go_enter Tryd.func46, Tryd.ntmps46
    go_wp2_with fail
    refine (HLG.out _).mono ?_
    rintro e w1 ⟨rfl, rfl⟩
    go_wp2_with fail
    refine bodyPost_ret (by simp [results, Tryd.results46, go_sem]; try rfl) rfl ?_
    refine ⟨.inr ⟨⟨_, _, rfl⟩, fun x at' h => ?_⟩, rfl⟩
    obtain ⟨ds, h1, h2, _⟩ := HNUM.out x at' h
    have := congrArg List.length h1
    simp at this
    omega
  have j7 : decide ((zs.length : Int) < (i : Int) + 2 + (n : Int)) = false := by simp; omega
  have j8 : (i : Int) + 2 + (n : Int) ≤ (zs.length : Int) := by omega
  have j9 : (i : Int) + 2 + (n : Int) ≤ (cp : Int) := by omega
  have j10 : ¬ cp = i + 2 := by omega
  have j11 : i + 2 ≤ i + 2 + n := by omega
  clear hn8
  go_enter Tryd.func46, Tryd.ntmps46
  go_wp2_with fail
  refine (HLG.out _).mono ?_
  rintro e w1 ⟨rfl, rfl⟩
  go_wp2_with fail
  have HI := Lib.hid hz
  have hsl : i + 2 + n - (i + 2) = n := by omega
  try rw [hsl]
  go_loopg [8, 52] n (fun g s8 s52 wr => wr = w1 ∧ ∃ (q : Nat) (v : Int), g = n - q ∧ q ≤ n ∧ s52 = .int .i64 (q : Nat) ∧ s8 = .int .i64 v ∧ Hex ((zs.drop (i + 2)).take q) v)
  case atStart => exact ⟨rfl, 0, 0, rfl, Nat.zero_le _, rfl, rfl, .nil⟩
  obtain ⟨rfl, q, v, hg, hqn, rfl, rfl, hh⟩ := hrel
  have hdl : (zs.drop (i + 2)).length = zs.length - (i + 2) := List.length_drop
  have htl : ((zs.drop (i + 2)).take q).length = q := by rw [List.length_take]; omega
  by_cases hlt : q < n
  · have hx := HI.out (i + 2 + q) (by omega)
    have hxr : 0 ≤ zs.getD (i + 2 + q) 0 ∧ zs.getD (i + 2 + q) 0 ≤ 1114111 := by
      rw [List.getD_eq_getElem?_getD, List.getElem?_eq_getElem (show i + 2 + q < zs.length by omega)]
      exact HCH.out _ (List.getElem_mem _)
    have hget : (zs.drop (i + 2))[q]? = some (zs.getD (i + 2 + q) 0) := by
      rw [List.getElem?_drop, List.getD_eq_getElem?_getD, List.getElem?_eq_getElem (show i + 2 + q < zs.length by omega)]
      rfl
    obtain ⟨x, HX⟩ : ∃ x, Hid (zs.getD (i + 2 + q) 0 = x) := ⟨_, rfl⟩
    rw [HX.out] at hx hxr hget
    have hhx := fun W => hexi_any x hxr.1 (by omega) W
    obtain ⟨v0, v1⟩ := hex_small hh (by omega)
    have k1 : (q : Int) < (n : Int) := by omega
    have k0 : (0 : Int) ≤ (q : Int) := by omega
    have HG := Lib.hid hg
    have HH := Lib.hid hh
    have HGET := Lib.hid hget
    cases hxd : hexd x with
    | none =>
      have hv : hexi x = -1 := by unfold hexi; rw [hxd]; rfl
      rw [hv] at hhx
      have HHX := Lib.hid hhx
      have HXD := Lib.hid hxd
      clear hhx hxd hv hg hh hget hdl htl
      go_wp2_with fail
      refine (HHX.out _).mono ?_
      rintro e w1 ⟨rfl, rfl⟩
      go_wp2_with fail
      refine bodyPost_ret (by simp [results, Tryd.results46, go_sem]; try rfl) rfl ?_
      refine ⟨.inr ⟨⟨_, _, rfl⟩, fun x2 at' h => ?_⟩, rfl⟩
      obtain ⟨ds, h1, h2, h3, _⟩ := HNUM.out x2 at' h
      have hm : x ∈ ds := by
        have := HGET.out
        rw [h1, List.getElem?_append_left (by omega)] at this
        exact List.mem_of_getElem? this
      obtain ⟨d, hd⟩ := h3.mem x hm
      rw [HXD.out] at hd
      cases hd
    | some d =>
      have hv : hexi x = d := by unfold hexi; rw [hxd]; rfl
      rw [hv] at hhx
      obtain ⟨d0, d1, _, _⟩ := hexd_range hxd
      have HHX := Lib.hid hhx
      have HXD := Lib.hid hxd
      have d2 : decide (d < 0) = false := by simp; omega
      clear hhx hxd hv hg hh hget hdl htl
      go_wp2_with fail
      refine (HHX.out _).mono ?_
      rintro e w1 ⟨rfl, rfl⟩
      go_wp2_with fail
      go_roundg (n - (q + 1))
      case measure => have := HG.out; omega
      case rel =>
        refine ⟨rfl, q + 1, v * 16 + d, rfl, by omega, rfl, rfl, ?_⟩
        rw [List.take_add_one, HGET.out]
        exact .snoc HH.out HXD.out
  · obtain rfl : q = n := by omega
    have k1 : ¬ ((q : Int) < (q : Int)) := by omega
    obtain ⟨v0, v1⟩ := hex_bound hh
    rw [htl] at v1
    have v2 : v ≤ 4294967295 := by
      have hc : q = 2 ∨ q = 4 ∨ q = 8 := by have := HN.out; have := long_le y; omega
      rcases hc with rfl | rfl | rfl
      all_goals exact Int.le_of_lt_add_one (Int.lt_of_lt_of_le v1 (by decide))
    obtain ⟨mm, hmm⟩ : ∃ mm, min v 1114112 = mm := ⟨_, rfl⟩
    have mb : 0 ≤ mm ∧ mm ≤ 1114112 ∧ (v ≤ 1114111 → mm = v) := by omega
    obtain ⟨mb0, mb1, mb2⟩ := mb
    have HH := Lib.hid hh
    have MB2 := Lib.hid mb2
    have hsplit : Hid (zs.drop (i + 1) = y :: ((zs.drop (i + 2)).take q ++ zs.drop (i + 2 + q))) := Lib.hid (by
      rw [HD.out, show zs.drop (i + 2 + q) = (zs.drop (i + 2)).drop q by rw [List.drop_drop], List.take_append_drop])
    have HTL := Lib.hid htl
    clear hg hh mb2 v1 hdl htl
    have hbad : ¬ (v ≤ 1114111 ∧ (v < 55296 ∨ 57343 < v)) → ∀ x at', ¬ Esc (zs.drop (i + 1)) x at' := by
      intro hno x at' h
      obtain ⟨ds, h1, h2, h3, h4, h5⟩ := HNUM.out x at' h
      have h6 : ds = (zs.drop (i + 2)).take q := by rw [h1, ← h2, List.take_left]
      rw [h6] at h3
      have := hex_unique h3 HH.out
      subst this
      exact hno ⟨h4, h5⟩
    have hgood : v ≤ 1114111 → (v < 55296 ∨ 57343 < v) → EscP zs i (.returned (.tuple #[.int .i32 mm, .int .i64 ((i : Int) + 2 + (q : Int)), .bool true])) := by
      intro g4 g5
      rw [MB2.out g4]
      refine .inl ⟨v, i + 2 + q, by simp, ?_, by omega, by omega, v0, g4⟩
      rw [hsplit.out]
      exact .num (by rw [HN.out]; omega) (by rw [HTL.out, HN.out]) HH.out g4 g5
    have HBAD := Lib.hid hbad
    have HGOOD := Lib.hid hgood
    clear hbad hgood
    by_cases g1 : v ≤ 1114111
    · by_cases g2 : v < 55296
      · have e1 : decide (v ≤ 1114111) = true := by simp; omega
        have e2 : decide (v < 55296) = true := by simp; omega
        go_wp2_with fail
        refine bodyPost_ret (by simp [results, Tryd.results46, go_sem]; try rfl) rfl ?_
        exact ⟨HGOOD.out g1 (.inl g2), rfl⟩
      by_cases g3 : 57343 < v
      · have e1 : decide (v ≤ 1114111) = true := by simp; omega
        have e2 : decide (v < 55296) = false := by simp; omega
        have e3 : decide (57343 < v) = true := by simp; omega
        go_wp2_with fail
        refine bodyPost_ret (by simp [results, Tryd.results46, go_sem]; try rfl) rfl ?_
        exact ⟨HGOOD.out g1 (.inr g3), rfl⟩
      have e1 : decide (v ≤ 1114111) = true := by simp; omega
      have e2 : decide (v < 55296) = false := by simp; omega
      have e3 : decide (57343 < v) = false := by simp; omega
      go_wp2_with fail
      refine bodyPost_ret (by simp [results, Tryd.results46, go_sem]; try rfl) rfl ?_
      exact ⟨.inr ⟨⟨_, _, rfl⟩, HBAD.out (by omega)⟩, rfl⟩
    have e1 : decide (v ≤ 1114111) = false := by simp; omega
    go_wp2_with fail
    refine bodyPost_ret (by simp [results, Tryd.results46, go_sem]; try rfl) rfl ?_
    exact ⟨.inr ⟨⟨_, _, rfl⟩, HBAD.out (by omega)⟩, rfl⟩
end Go.Proofs.YtocbbekciphjgaaDoor.Dq
/- ScI -/
/- The law's own functions (digits, ndSpaces): the walks. -/
namespace Go.Proofs.YtocbbekciphjgaaDoor.Sc
open Go.RowKit Go.Proofs.YtocbbekciphjgaaDoor.Rdp Go.Proofs.YtocbbekciphjgaaDoor.Pa
set_option linter.unusedVariables false
set_option linter.unusedSimpArgs false
/-- The digits of a number below 100. -/
def dig (n : Nat) : List Int := if n < 10 then [48 + (n : Int)] else [48 + (n / 10 : Nat), 48 + (n % 10 : Nat)]
theorem conv_bytes (xs : List Int) (g c : Nat) (w : World) (h : ∀ i, i < xs.length → w.cell? ⟨g, i, none⟩ = some (.int .u8 (xs.getD i 0))) : (convert 22 9 (.slice (some ⟨g, 0, none⟩) xs.length c)).run Tryd.prog w = .ok (.string (strOfNums xs)) w := by
  refine run_convert_bytes_arg w 22 5 Tryd.underlying22 Tryd.underlying5 g 0 xs.length c xs rfl ?_ 9 Tryd.underlying9
  intro i hi
  rw [Nat.zero_add]
  exact h i hi
set_option maxHeartbeats 1000000 in
set_option maxRecDepth 100000 in
theorem dig1 (n : Nat) (hn : n < 10) (w : World) : Calls Tryd.prog 13 #[.int .i64 n] w fun e w' => e = .returned (.string (strOfNums (dig n))) ∧ Below w.heap.size w w' := by
  have h1 : decide ((n : Int) < 10) = true := by simp; omega
  have hd : dig n = [48 + (n : Int)] := by unfold dig; rw [if_pos hn]
  rw [hd]
  have hc := conv_bytes [48 + (n : Int)] w.heap.size 1 (w.alloc (.cells #[.int .u8 (48 + n)] 5)) (fun i hi => by
    have : i = 0 := by simp at hi; omega
    subst this
    simp)
  simp only [List.length_cons, List.length_nil] at hc
  go_enter Tryd.func13, Tryd.ntmps13
  go_wp2_with fail
  go_ret
  exact ⟨rfl, (Below.refl _ _).alloc (Nat.le_refl _) _⟩
set_option maxHeartbeats 1000000 in
set_option maxRecDepth 100000 in
theorem dig2 (a b : Nat) (ha : 1 ≤ a) (ha9 : a ≤ 9) (hb : b ≤ 9) (w : World) : Calls Tryd.prog 13 #[.int .i64 (10 * a + b : Nat)] w fun e w' => e = .returned (.string (strOfNums (dig (10 * a + b)))) ∧ Below w.heap.size w w' := by
  have h1 : decide (((10 * a + b : Nat) : Int) < 10) = false := by simp; omega
  have hd : dig (10 * a + b) = [48 + (a : Int), 48 + (b : Int)] := by
    unfold dig
    rw [if_neg (by omega), show (10 * a + b) / 10 = a by omega, show (10 * a + b) % 10 = b by omega]
  rw [hd]
  have q1 : Int.tdiv ((10 * a + b : Nat) : Int) 10 = (a : Int) := by rw [Int.tdiv_eq_ediv_of_nonneg (by omega)]; omega
  have q2 : Int.tmod ((10 * a + b : Nat) : Int) 10 = (b : Int) := by rw [Int.tmod_eq_emod_of_nonneg (by omega)]; omega
  have hc := conv_bytes [48 + (a : Int), 48 + (b : Int)] w.heap.size 2 (w.alloc (.cells #[.int .u8 (48 + a), .int .u8 (48 + b)] 5)) (fun i hi => by
    have : i = 0 ∨ i = 1 := by simp at hi; omega
    rcases this with rfl | rfl <;> simp)
  simp only [List.length_cons, List.length_nil] at hc
  obtain ⟨N, HN⟩ : ∃ N : Int, ((10 * a + b : Nat) : Int) = N := ⟨_, rfl⟩
  rw [HN] at h1 q1 q2 ⊢
  go_enter Tryd.func13, Tryd.ntmps13
  go_wp2_with fail
  go_ret
  exact ⟨rfl, (Below.refl _ _).alloc (Nat.le_refl _) _⟩
set_option maxHeartbeats 1000000 in
set_option maxRecDepth 100000 in
theorem mk_sp (n : Nat) (hn : n ≤ 1000000) (w : World) : (Instr.makeSlice 22 (.int .i64 n) (.int .i64 n)).run Tryd.prog w = .ok (.slice (some ⟨w.heap.size, 0, none⟩) n n) (w.alloc (.cells (zeros n).toArray 5)) := by
  obtain ⟨i0, hi, hz0, hz1, hz2⟩ := info_parts info5
  have h := run_make (P := Tryd.prog) w 22 5 i0 (.int .u8 0) Tryd.underlying22 hi hz0 .i64 .i64 (n : Int) (n : Int) (by omega) (by omega) (by rw [hz2]; omega) (by omega)
  rw [h, hz1, Nat.mul_one]
  have e : madeCells (Value.int .u8 0).cells n = (zeros n).toArray := by
    unfold madeCells zeros
    apply Array.ext
    · simp
    · intro i h1 h2
      simp [Value.cells, Nat.mod_one]
  simp [e]
set_option maxHeartbeats 1000000 in
set_option maxRecDepth 100000 in
theorem sp0 (w : World) : Calls Tryd.prog 14 #[.int .i64 0] w fun e w' => e = .returned (.string (strOfNums [])) ∧ Below w.heap.size w w' := by
  have hm : (Instr.makeSlice 22 (.int .i64 0) (.int .i64 0)).run Tryd.prog w = .ok (.slice (some ⟨w.heap.size, 0, none⟩) 0 0) (w.alloc (.cells #[] 5)) := mk_sp 0 (by omega) w
  have hc := conv_bytes [] w.heap.size 0 (w.alloc (.cells #[] 5)) (fun i hi => by
    simp at hi)
  simp only [List.length_nil] at hc
  go_enter Tryd.func14, Tryd.ntmps14
  go_wp2_with fail
  go_rounds 1
  go_ret
  exact ⟨rfl, (Below.refl _ _).alloc (Nat.le_refl _) _⟩
set_option maxHeartbeats 1000000 in
set_option maxRecDepth 100000 in
theorem sp1 (w : World) : Calls Tryd.prog 14 #[.int .i64 1] w fun e w' => e = .returned (.string (strOfNums [32])) ∧ Below w.heap.size w w' := by
  have hm : (Instr.makeSlice 22 (.int .i64 1) (.int .i64 1)).run Tryd.prog w = .ok (.slice (some ⟨w.heap.size, 0, none⟩) 1 1) (w.alloc (.cells #[.int .u8 0] 5)) := mk_sp 1 (by omega) w
  have hc := conv_bytes [32] w.heap.size 1 (w.alloc (.cells #[.int .u8 32] 5)) (fun i hi => by
    have : i = 0 := by simp at hi; omega
    rcases this with rfl <;> simp)
  simp only [List.length_cons, List.length_nil] at hc
  go_enter Tryd.func14, Tryd.ntmps14
  go_wp2_with fail
  go_rounds 2
  go_ret
  exact ⟨rfl, (Below.refl _ _).alloc (Nat.le_refl _) _⟩
set_option maxHeartbeats 1000000 in
set_option maxRecDepth 100000 in
theorem sp2 (w : World) : Calls Tryd.prog 14 #[.int .i64 2] w fun e w' => e = .returned (.string (strOfNums [32, 32])) ∧ Below w.heap.size w w' := by
  have hm : (Instr.makeSlice 22 (.int .i64 2) (.int .i64 2)).run Tryd.prog w = .ok (.slice (some ⟨w.heap.size, 0, none⟩) 2 2) (w.alloc (.cells #[.int .u8 0, .int .u8 0] 5)) := mk_sp 2 (by omega) w
  have hc := conv_bytes [32, 32] w.heap.size 2 (w.alloc (.cells #[.int .u8 32, .int .u8 32] 5)) (fun i hi => by
    have : i = 0 ∨ i = 1 := by simp at hi; omega
    rcases this with rfl | rfl <;> simp)
  simp only [List.length_cons, List.length_nil] at hc
  go_enter Tryd.func14, Tryd.ntmps14
  go_wp2_with fail
  go_rounds 3
  go_ret
  exact ⟨rfl, (Below.refl _ _).alloc (Nat.le_refl _) _⟩
set_option maxHeartbeats 1000000 in
set_option maxRecDepth 100000 in
theorem sp3 (w : World) : Calls Tryd.prog 14 #[.int .i64 3] w fun e w' => e = .returned (.string (strOfNums [32, 32, 32])) ∧ Below w.heap.size w w' := by
  have hm : (Instr.makeSlice 22 (.int .i64 3) (.int .i64 3)).run Tryd.prog w = .ok (.slice (some ⟨w.heap.size, 0, none⟩) 3 3) (w.alloc (.cells #[.int .u8 0, .int .u8 0, .int .u8 0] 5)) := mk_sp 3 (by omega) w
  have hc := conv_bytes [32, 32, 32] w.heap.size 3 (w.alloc (.cells #[.int .u8 32, .int .u8 32, .int .u8 32] 5)) (fun i hi => by
    have : i = 0 ∨ i = 1 ∨ i = 2 := by simp at hi; omega
    rcases this with rfl | rfl | rfl <;> simp)
  simp only [List.length_cons, List.length_nil] at hc
  go_enter Tryd.func14, Tryd.ntmps14
  go_wp2_with fail
  go_rounds 4
  go_ret
  exact ⟨rfl, (Below.refl _ _).alloc (Nat.le_refl _) _⟩
theorem spaces_any (n : Nat) (hn : n ≤ 3) (w : World) : Calls Tryd.prog 14 #[.int .i64 n] w fun e w' => e = .returned (.string (strOfNums (List.replicate n 32))) ∧ Below w.heap.size w w' := by
  have : n = 0 ∨ n = 1 ∨ n = 2 ∨ n = 3 := by omega
  rcases this with rfl | rfl | rfl | rfl
  · exact sp0 w
  · exact sp1 w
  · exact sp2 w
  · exact sp3 w
theorem digits_any (n : Nat) (hn : n < 100) (w : World) : Calls Tryd.prog 13 #[.int .i64 n] w fun e w' => e = .returned (.string (strOfNums (dig n))) ∧ Below w.heap.size w w' := by
  by_cases h : n < 10
  · exact dig1 n h w
  · have := dig2 (n / 10) (n % 10) (by omega) (by omega) (by omega) w
    rw [show 10 * (n / 10) + n % 10 = n by omega] at this
    exact this
end Go.Proofs.YtocbbekciphjgaaDoor.Sc
/- ScJ -/
/- A text as bytes in memory, and the law's texts: plain laws. -/
namespace Go.Proofs.YtocbbekciphjgaaDoor.Sc
open Go.RowKit Go.Proofs.YtocbbekciphjgaaDoor.Rdp Go.Proofs.YtocbbekciphjgaaDoor.Pa
set_option linter.unusedVariables false
set_option linter.unusedSimpArgs false
theorem str_size (xs : List Int) : (strOfNums xs).size = xs.length := by
  unfold strOfNums ByteArray.size
  simp
theorem str_append (xs ys : List Int) : strOfNums xs ++ strOfNums ys = strOfNums (xs ++ ys) := by
  apply ByteArray.ext
  rw [ByteArray.data_append]
  simp [strOfNums]
/-- A text is laid in memory. -/
theorem conv_str (xs : List Int) (h : ∀ x, x ∈ xs → 0 ≤ x ∧ x < 256) (w : World) : ∃ c w', (convert 9 22 (.string (strOfNums xs))).run Tryd.prog w = .ok (.slice (some ⟨w.heap.size, 0, none⟩) xs.length c) w' ∧ xs.length ≤ c ∧ Below w.heap.size w w' ∧ In w' (some ⟨w.heap.size, 0, none⟩) xs ∧ w'.heap.size = w.heap.size + 1 := by
  have hr := run_bytes_of_string (P := Tryd.prog) w 9 22 5 (strOfNums xs) Tryd.underlying9 Tryd.underlying22 Tryd.underlying5
  rw [str_size] at hr
  refine ⟨_, _, hr, grownCap_ge _ _ _ _, (Below.refl _ _).drew.alloc (Nat.le_refl _) _, .inr ⟨w.heap.size, 0, rfl, by simp, fun i hi => ?_⟩, by simp⟩
  have hx := h (xs.getD i 0) (by rw [List.getD_eq_getElem?_getD, List.getElem?_eq_getElem hi]; exact List.getElem_mem hi)
  have hcell : (bytesRow (strOfNums xs) (grownCap w xs.length 0 5))[i]? = some (.int .u8 (xs.getD i 0)) := by
    unfold bytesRow
    rw [Array.getElem?_append_left (by unfold strOfNums; simp; exact hi)]
    unfold strOfNums
    simp only [List.map_toArray, List.map_map, List.getElem?_toArray, List.getElem?_map, List.getElem?_eq_getElem hi, Option.map_some, Function.comp]
    rw [List.getD_eq_getElem?_getD, List.getElem?_eq_getElem hi] at hx ⊢
    simp only [Option.getD_some] at hx ⊢
    have : ((UInt8.ofNat (xs[i]).toNat).toNat : Int) = xs[i] := by
      rw [UInt8.toNat_ofNat']
      omega
    rw [this]
  rw [Nat.zero_add]
  rw [← hcell]
  generalize bytesRow (strOfNums xs) (grownCap w xs.length 0 5) = C
  generalize (C.size, C.size + 1) = fr
  have hh : (w.drew.alloc (.cells C 5 fr)).heap[w.heap.size]? = some (.cells C 5 fr) := by
    show (w.heap.push (.cells C 5 fr))[w.heap.size]? = _
    simp
  unfold World.cell?
  show (match (w.drew.alloc (.cells C 5 fr)).heap[w.heap.size]? with | some (.cells c _ _) => c[i]? | _ => none) = C[i]?
  rw [hh]
end Go.Proofs.YtocbbekciphjgaaDoor.Sc
/- QeI -/
/- Characters and strings: what a rune is as a string, what a valid text's bytes are; plain. -/
namespace Go.Proofs.YtocbbekciphjgaaDoor.Dq
open Go.RowKit Go.Proofs.YtocbbekciphjgaaDoor.Pa Go.Proofs.YtocbbekciphjgaaDoor.Sc Go.Proofs.YtocbbekciphjgaaDoor.Qd Go.Proofs.YtocbbekciphjgaaDoor.Rdp Go.Proofs.YtocbbekciphjgaaDoor.Ln
set_option linter.unusedVariables false
set_option linter.unusedSimpArgs false
/-- A character that can be written. -/
def Vr (c : Int) : Prop := 0 ≤ c ∧ c ≤ 1114111 ∧ (c < 55296 ∨ 57343 < c)
theorem vr_of_ch {c : Int} (h : Ch c) : Vr c := by
  unfold Ch at h
  unfold Vr
  omega
theorem encodeZ_u8 {c : Int} (h : Vr c) : Lib.encodeRuneZ c = u8 c := by
  obtain ⟨h0, h1, h2⟩ := h
  unfold u8
  by_cases c1 : c < 128
  · rw [Lib.encodeRuneZ_one h0 (by omega), if_pos c1]
  rw [if_neg c1]
  by_cases c2 : c < 2048
  · rw [Lib.encodeRuneZ_two (by omega) (by omega), if_pos c2]
  rw [if_neg c2]
  by_cases c3 : c < 65536
  · rw [Lib.encodeRuneZ_three (by omega), if_pos c3]
  rw [if_neg c3, Lib.encodeRuneZ_four (by omega) h1]
theorem enc_toList {c : Int} (h : Vr c) : (Utf8.encode c).data.toList = (u8 c).map fun x => UInt8.ofNat x.toNat := by
  obtain ⟨h0, h1, h2⟩ := h
  have v : Utf8.valid c = true := by simp [Utf8.valid]; omega
  unfold u8
  obtain ⟨r, rfl⟩ : ∃ r : Nat, c = (r : Int) := ⟨c.toNat, by omega⟩
  unfold Utf8.encode
  simp only [v, if_true, Int.toNat_natCast]
  by_cases c1 : r < 128
  · rw [if_pos c1, if_pos (show (r : Int) < 128 by omega)]
    rfl
  rw [if_neg c1, if_neg (show ¬ (r : Int) < 128 by omega)]
  by_cases c2 : r < 2048
  · rw [if_pos c2, if_pos (show (r : Int) < 2048 by omega)]
    show [UInt8.ofNat (192 + r / 64), UInt8.ofNat (128 + r % 64)] = [UInt8.ofNat (192 + (r : Int) / 64).toNat, UInt8.ofNat (128 + (r : Int) % 64).toNat]
    rw [show (192 + (r : Int) / 64).toNat = 192 + r / 64 by omega, show (128 + (r : Int) % 64).toNat = 128 + r % 64 by omega]
  rw [if_neg c2, if_neg (show ¬ (r : Int) < 2048 by omega)]
  by_cases c3 : r < 65536
  · rw [if_pos c3, if_pos (show (r : Int) < 65536 by omega)]
    show [UInt8.ofNat (224 + r / 4096), UInt8.ofNat (128 + r / 64 % 64), UInt8.ofNat (128 + r % 64)] = [UInt8.ofNat (224 + (r : Int) / 4096).toNat, UInt8.ofNat (128 + (r : Int) / 64 % 64).toNat, UInt8.ofNat (128 + (r : Int) % 64).toNat]
    rw [show (224 + (r : Int) / 4096).toNat = 224 + r / 4096 by omega, show (128 + (r : Int) / 64 % 64).toNat = 128 + r / 64 % 64 by omega, show (128 + (r : Int) % 64).toNat = 128 + r % 64 by omega]
  rw [if_neg c3, if_neg (show ¬ (r : Int) < 65536 by omega)]
  show [UInt8.ofNat (240 + r / 262144), UInt8.ofNat (128 + r / 4096 % 64), UInt8.ofNat (128 + r / 64 % 64), UInt8.ofNat (128 + r % 64)] = [UInt8.ofNat (240 + (r : Int) / 262144).toNat, UInt8.ofNat (128 + (r : Int) / 4096 % 64).toNat, UInt8.ofNat (128 + (r : Int) / 64 % 64).toNat, UInt8.ofNat (128 + (r : Int) % 64).toNat]
  rw [show (240 + (r : Int) / 262144).toNat = 240 + r / 262144 by omega, show (128 + (r : Int) / 4096 % 64).toNat = 128 + r / 4096 % 64 by omega, show (128 + (r : Int) / 64 % 64).toNat = 128 + r / 64 % 64 by omega, show (128 + (r : Int) % 64).toNat = 128 + r % 64 by omega]
theorem enc_u8 {c : Int} (h : Vr c) : Utf8.encode c = strOfNums (u8 c) := by
  apply ByteArray.ext
  apply Array.ext'
  rw [enc_toList h]
  rfl
theorem u8_us (c : Int) : u8 c = us [c] := by
  show _ = u8 c ++ []
  rw [List.append_nil]
theorem enc_us {c : Int} (h : Vr c) : Utf8.encode c = strOfNums (us [c]) := by rw [enc_u8 h, u8_us]
theorem us_feeds (n : Nat) : us (feeds n) = feeds n := by
  induction n with
  | zero => rfl
  | succ n ih =>
    show us (10 :: feeds n) = 10 :: feeds n
    show u8 10 ++ us (feeds n) = _
    rw [ih]
    rfl
theorem us_fold (n : Nat) : us (fold n) = fold n := by
  unfold fold
  split
  · rfl
  · exact us_feeds n
theorem feeds_length (n : Nat) : (feeds n).length = n := by
  unfold feeds
  simp
theorem fold_length (n : Nat) : (fold n).length ≤ n + 1 := by
  unfold fold
  split
  · simp
  · rw [feeds_length]
    omega
/-- An escape is a character that can be written. -/
theorem esc_vr {r at' : List Int} {x : Int} (h : Esc r x at') : Vr x := by
  cases h with
  | name g =>
    have := named_range g
    unfold Vr
    omega
  | num g1 g2 g3 g4 g5 =>
    have := hex_bound g3
    exact ⟨this.1, g4, g5⟩
theorem okc_ch {c : Int} (h : okc true c = true) : Ch c := by
  unfold okc ct at h
  unfold Ch
  by_cases h10 : c = 10
  · exact .inr (.inl h10)
  have e : (c == 10) = false := by simpa using h10
  rw [e] at h
  simp only [Bool.true_and, Bool.or_false] at h
  split at h
  · simp at h
    omega
  · split at h
    · simp at h
      omega
    · simp at h
      omega
/-- The bytes of a text of such characters. -/
theorem run_us {s : ByteArray} {i : Nat} {l : List Int} (h : Run s i l) : (∀ c ∈ l, Ch c) → s.data.toList.drop i = (us l).map fun x => UInt8.ofNat x.toNat := by
  induction h with
  | done =>
    intro _
    rw [List.drop_of_length_le (by simp)]
    rfl
  | step h1 h2 h3 ih =>
    rename_i i l
    intro hc
    have hl : s.data.toList.length = s.size := by simp
    have hne : s.data.toList.drop i ≠ [] := by
      intro e
      have := congrArg List.length e
      rw [List.length_drop, hl] at this
      simp at this
      omega
    have he := Lib.encode_decode (s.data.toList.drop i) hne (by rw [Lib.decodeL_drop]; exact h2)
    rw [Lib.decodeL_drop] at he
    have hv := vr_of_ch (hc _ (List.mem_cons_self ..))
    unfold Lib.encodeRune at he
    rw [show ((Utf8.decode s i).1 : Int) = Int.ofNat (Utf8.decode s i).1 from rfl, encodeZ_u8 hv] at he
    have ih' := ih (fun c h => hc c (List.mem_cons_of_mem _ h))
    rw [← List.take_append_drop (Utf8.decode s i).2 (s.data.toList.drop i), ← he, List.drop_drop, ih']
    show _ = (u8 _ ++ us l).map _
    rw [List.map_append]
theorem str_us {s : ByteArray} {l : List Int} (h : Run s 0 l) (hc : ∀ c ∈ l, Ch c) : s = strOfNums (us l) := by
  have := run_us h hc
  rw [List.drop_zero] at this
  apply ByteArray.ext
  apply Array.ext'
  rw [this]
  rfl
theorem us_str_inj {a b : List Int} (ha : ∀ x ∈ a, 0 ≤ x ∧ x < 256) (hb : ∀ x ∈ b, 0 ≤ x ∧ x < 256) (h : strOfNums a = strOfNums b) : a = b := by
  have h1 := congrArg (fun t : ByteArray => t.data.toList) h
  have h2 : a.map (fun n => UInt8.ofNat n.toNat) = b.map (fun n => UInt8.ofNat n.toNat) := h1
  have h3 : ∀ l : List Int, (∀ x ∈ l, 0 ≤ x ∧ x < 256) → (l.map (fun n => UInt8.ofNat n.toNat)).map (fun b : UInt8 => (b.toNat : Int)) = l := by
    intro l hl
    rw [List.map_map]
    conv => rhs; rw [← List.map_id l]
    apply List.map_congr_left
    intro x hx
    obtain ⟨h0, h1⟩ := hl x hx
    simp
    omega
  rw [← h3 a ha, ← h3 b hb, h2]
end Go.Proofs.YtocbbekciphjgaaDoor.Dq
/- QeJ -/
/- What the reference says of a text between double quotes (spec.Double): walked. -/
namespace Go.Proofs.YtocbbekciphjgaaDoor.Dq
open Go.RowKit Go.Proofs.YtocbbekciphjgaaDoor.Pa Go.Proofs.YtocbbekciphjgaaDoor.Sc Go.Proofs.YtocbbekciphjgaaDoor.Qd Go.Proofs.YtocbbekciphjgaaDoor.Rdp Go.Proofs.YtocbbekciphjgaaDoor.Ln
set_option linter.unusedVariables false
set_option linter.unusedSimpArgs false
/-- What spec.Double says of a text. -/
def DblP (s : ByteArray) (e : Ending) : Prop :=
  (∃ t, e = .returned (.tuple #[.string t, .int .i64 0])) ∨
  ∃ zs : List Int, s = strOfNums (us zs) ∧ (∀ c ∈ zs, Ch c) ∧ zs.length ≤ 65536 ∧ s.size ≤ 65536 ∧ ((∃ t, e = .returned (.tuple #[.string t, .int .i64 1]) ∧ Bad zs) ∨ ∃ v : List Int, e = .returned (.tuple #[.string (strOfNums (us v)), .int .i64 2]) ∧ Dbl zs [] [] v)
/-- What holds when the loop has come to i. -/
def Mid (zs : List Int) (i : Nat) (A B : ByteArray) (wrong : Bool) : Prop :=
  (wrong = false ∧ i ≤ zs.length ∧ ∃ out white : List Int, A = strOfNums (us out) ∧ B = strOfNums (us white) ∧ (∀ v, Dbl (zs.drop i) out white v → Dbl zs [] [] v) ∧ (Bad (zs.drop i) → Bad zs)) ∨ (wrong = true ∧ Bad zs)
theorem str_us2 {A B C : ByteArray} {a b c : List Int} (ha : A = strOfNums (us a)) (hb : B = strOfNums (us b)) (hc : C = strOfNums (us c)) : A ++ B ++ C = strOfNums (us (a ++ b ++ c)) := by
  rw [ha, hb, hc, str_append, str_append, us_app, us_app]
theorem str_us1 {A C : ByteArray} {a c : List Int} (ha : A = strOfNums (us a)) (hc : C = strOfNums (us c)) : A ++ C = strOfNums (us (a ++ c)) := by
  rw [ha, hc, str_append, us_app]
theorem empty_us : ByteArray.mk #[] = strOfNums (us []) := rfl
theorem Mid.cut {zs : List Int} {i n j : Nat} {A B : ByteArray} {wr : Bool} (h : Mid zs i A B wr) (h1 : i + 1 < zs.length) (hc : zs.getD i 0 = 92) (hd : zs.getD (i + 1) 0 = 10) (hj : j ≤ zs.length) (he : Emp (zs.drop (i + 2)) n (zs.drop j)) : Mid zs j (A ++ B ++ strOfNums (feeds n)) ⟨#[]⟩ wr := by
  rcases h with ⟨h0, hi, out, white, ha, hb, hD, hB⟩ | h
  · refine .inl ⟨h0, hj, out ++ white ++ feeds n, [], str_us2 ha hb (by rw [us_feeds]), empty_us, fun v hv => hD v ?_, fun hv => hB ?_⟩
    · rw [drop_at (by omega), drop_at (by omega), hc, hd]
      exact .cut he hv
    · rw [drop_at (by omega), drop_at (by omega), hc, hd]
      exact .cut he hv
  · exact .inr h
theorem Mid.esc {zs : List Int} {i j : Nat} {x : Int} {A B : ByteArray} {wr : Bool} (h : Mid zs i A B wr) (h1 : i < zs.length) (hc : zs.getD i 0 = 92) (ha : away (zs.drop (i + 1)) = false) (hj : j ≤ zs.length) (he : Esc (zs.drop (i + 1)) x (zs.drop j)) : Mid zs j (A ++ B ++ Utf8.encode x) ⟨#[]⟩ wr := by
  rcases h with ⟨h0, hi, out, white, ha', hb, hD, hB⟩ | h
  · refine .inl ⟨h0, hj, out ++ white ++ [x], [], str_us2 ha' hb (enc_us (esc_vr he)), empty_us, fun v hv => hD v ?_, fun hv => hB ?_⟩
    · rw [drop_at (by omega), hc]
      exact .esc ha he hv
    · rw [drop_at (by omega), hc]
      exact .esc ha he hv
  · exact .inr h
theorem Mid.bad {zs : List Int} {i j : Nat} {A B A' B' : ByteArray} {wr : Bool} (h : Mid zs i A B wr) (h1 : i < zs.length) (hc : zs.getD i 0 = 92) (ha : away (zs.drop (i + 1)) = false) (he : ∀ x at', ¬ Esc (zs.drop (i + 1)) x at') : Mid zs j A' B' true := by
  rcases h with ⟨h0, hi, out, white, ha', hb, hD, hB⟩ | h
  · refine .inr ⟨rfl, hB ?_⟩
    rw [drop_at (by omega), hc]
    exact .here ha he
  · exact .inr ⟨rfl, h.2⟩
theorem Mid.brk {zs : List Int} {i n j : Nat} {A B : ByteArray} {wr : Bool} (h : Mid zs i A B wr) (h1 : i < zs.length) (hc : zs.getD i 0 = 10) (hj : j ≤ zs.length) (he : Emp (zs.drop (i + 1)) n (zs.drop j)) : Mid zs j (A ++ strOfNums (fold n)) ⟨#[]⟩ wr := by
  rcases h with ⟨h0, hi, out, white, ha, hb, hD, hB⟩ | h
  · refine .inl ⟨h0, hj, out ++ fold n, [], str_us1 ha (by rw [us_fold]), empty_us, fun v hv => hD v ?_, fun hv => hB ?_⟩
    · rw [drop_at (by omega), hc]
      exact .brk he hv
    · rw [drop_at (by omega), hc]
      exact .brk he hv
  · exact .inr h
theorem Mid.wht {zs : List Int} {i : Nat} {A B : ByteArray} {wr : Bool} (h : Mid zs i A B wr) (h1 : i < zs.length) (hc : wh (zs.getD i 0) = true) (hch : Ch (zs.getD i 0)) : Mid zs (i + 1) A (B ++ Utf8.encode (zs.getD i 0)) wr := by
  rcases h with ⟨h0, hi, out, white, ha, hb, hD, hB⟩ | h
  · refine .inl ⟨h0, h1, out, white ++ [zs.getD i 0], ha, str_us1 hb (enc_us (vr_of_ch hch)), fun v hv => hD v ?_, fun hv => hB ?_⟩
    · rw [drop_at h1]
      exact .wht hc hv
    · rw [drop_at h1]
      exact .wht hc hv
  · exact .inr h
theorem Mid.chr {zs : List Int} {i : Nat} {A B : ByteArray} {wr : Bool} (h : Mid zs i A B wr) (h1 : i < zs.length) (hc : wh (zs.getD i 0) = false) (h10 : zs.getD i 0 ≠ 10) (h92 : zs.getD i 0 ≠ 92) (h34 : zs.getD i 0 ≠ 34) (hch : Ch (zs.getD i 0)) : Mid zs (i + 1) (A ++ B ++ Utf8.encode (zs.getD i 0)) ⟨#[]⟩ wr := by
  rcases h with ⟨h0, hi, out, white, ha, hb, hD, hB⟩ | h
  · refine .inl ⟨h0, h1, out ++ white ++ [zs.getD i 0], [], str_us2 ha hb (enc_us (vr_of_ch hch)), empty_us, fun v hv => hD v ?_, fun hv => hB ?_⟩
    · rw [drop_at h1]
      exact .chr hc h10 h92 h34 hv
    · rw [drop_at h1]
      exact .chr hc h10 h92 h34 hv
  · exact .inr h
theorem Mid.out {zs : List Int} {i : Nat} {A B : ByteArray} (h : Mid zs i A B false) (hi : zs.length ≤ i) : ∃ v, A ++ B = strOfNums (us v) ∧ Dbl zs [] [] v := by
  rcases h with ⟨h0, hi', out, white, ha, hb, hD, hB⟩ | ⟨h, _⟩
  · refine ⟨out ++ white, str_us1 ha hb, hD _ ?_⟩
    rw [List.drop_of_length_le hi]
    exact .done
  · cases h
theorem Mid.wrong {zs : List Int} {i : Nat} {A B : ByteArray} (h : Mid zs i A B true) : Bad zs := by
  rcases h with ⟨h0, _⟩ | ⟨_, h⟩
  · cases h0
  · exact h
theorem Mid.start (zs : List Int) : Mid zs 0 ⟨#[]⟩ ⟨#[]⟩ false := by
  refine .inl ⟨rfl, Nat.zero_le _, [], [], empty_us, empty_us, fun v hv => ?_, fun hv => ?_⟩
  · rw [List.drop_zero] at hv
    exact hv
  · rw [List.drop_zero] at hv
    exact hv
theorem str_us_size (l : List Int) : (strOfNums (us l)).size ≤ 4 * l.length := by
  rw [str_size]
  induction l with
  | nil => exact Nat.le_refl _
  | cons c l ih =>
    show (u8 c ++ us l).length ≤ 4 * (l.length + 1)
    have := u8_pos c
    rw [List.length_append]
    omega
theorem str_feeds_size (n : Nat) : (strOfNums (feeds n)).size = n := by rw [str_size, feeds_length]
theorem str_fold_size (n : Nat) : (strOfNums (fold n)).size ≤ n + 1 := by
  rw [str_size]
  exact fold_length n
end Go.Proofs.YtocbbekciphjgaaDoor.Dq
