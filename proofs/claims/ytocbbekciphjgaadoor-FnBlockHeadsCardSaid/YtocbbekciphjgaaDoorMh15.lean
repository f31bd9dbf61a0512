/- QgE, QiH, PaQ2: parts of the proof, one behind another. -/
import Derived.Laws.BitsLemmas
import Derived.Test.YtocbbekciphjgaaDoorMz12
import Derived.Test.YtocbbekciphjgaaDoorMh2
import Derived.Test.YtocbbekciphjgaaDoorMh8
import Derived.Test.YtocbbekciphjgaaDoorMh10
import Derived.Test.YtocbbekciphjgaaDoorMh11
import Derived.Test.YtocbbekciphjgaaDoorMh14
/- QgE -/
/- The header of a block scalar (yaml_parser_scan_block_scalar): what it comes to. Printed by genQg.py. -/
namespace Go.Proofs.YtocbbekciphjgaaDoor.Bs
open Go.RowKit Go.Proofs.YtocbbekciphjgaaDoor.Rdp Go.Proofs.YtocbbekciphjgaaDoor.Pa Go.Proofs.YtocbbekciphjgaaDoor.Sc Go.Proofs.YtocbbekciphjgaaDoor.Qd
set_option linter.unusedVariables false
set_option linter.unusedSimpArgs false
theorem cells_agree {L L' : List Value} (hc : Sc.Cells L) (hl : L'.length = 52) (h : ∀ j, j ≠ 32 → L'[j]? = L[j]?) : Sc.Cells L' := by
  refine ⟨hl, ?_, ?_, ?_, ?_, ?_, ?_, ?_, ?_, ?_, ?_, ?_⟩
  · rw [h 0 (by omega)]; exact hc.c0
  · rw [h 1 (by omega)]; exact hc.c1
  · rw [h 2 (by omega)]; exact hc.c2
  · rw [h 3 (by omega)]; exact hc.c3
  · rw [h 4 (by omega)]; exact hc.c4
  · rw [h 5 (by omega)]; exact hc.c5
  · rw [h 6 (by omega)]; exact hc.c6
  · rw [h 7 (by omega)]; exact hc.c7
  · rw [h 8 (by omega)]; exact hc.c8
  · rw [h 9 (by omega)]; exact hc.c9
  · rw [h 10 (by omega)]; exact hc.c10
theorem fb_val {c : Int} {r : List Int} (h : Ch c) : fb (c :: r) = c ∨ (194 ≤ fb (c :: r) ∧ 128 ≤ c) := by
  by_cases hl : c < 128
  · exact .inl (fb_small hl)
  · exact .inr ⟨(fb_great h (by omega)).1, by omega⟩
theorem digit_no {x : Int} (h : ¬ (48 ≤ x ∧ x ≤ 57)) : isDigit x = false := by
  unfold isDigit
  by_cases h1 : 48 ≤ x
  · rw [show decide (x ≤ 57) = false by simp; omega]; simp
  · rw [show decide (48 ≤ x) = false by simp; omega]; rfl
theorem digit_yes {x : Int} (h : 48 ≤ x ∧ x ≤ 57) : isDigit x = true := by
  unfold isDigit
  rw [show decide (48 ≤ x) = true by simp; omega, show decide (x ≤ 57) = true by simp; omega]
  rfl
theorem pm_no {x : Int} (h1 : x ≠ 43) (h2 : x ≠ 45) : (x == 43 || x == 45) = false := by rw [nb h1, nb h2]; rfl
theorem pm_yes {x : Int} (h : x = 43 ∨ x = 45) : (x == 43 || x == 45) = true := by rcases h with rfl | rfl <;> rfl
theorem Hd.ne {l : List Int} {ch : Int} {e : Nat} {o : Option (List Int)} (h : Hd l ch e o) : l ≠ [] := by cases h <;> simp
theorem Tl.ne {l : List Int} {o : Option (List Int)} (h : Tl l o) : l ≠ [] := by cases h <;> simp
/-- The two indicators. -/
theorem hd_step {k : Kn} {p t mk : Nat} {s0 s1 s2 : Int} {L0 : List Value} {w1 : World} (hC : Ch1 k p mk s0 s1 s2 L0 w1) {li : Bool} {c u col : Nat} {rest : List Int} {a : Act} {w : World} {K : Act → World → Prop} {Q : Exit → Act → World → Prop} (hF : Fh p t mk li 0 0 a) (hS : Sh k p L0 w1 c u col rest w) (hu : 1 ≤ u) {o : Option (List Int)} {ch : Int} {inc : Nat} (h : Hd rest ch inc o)
    (hK : ∀ a' w' c' u' col' rest', Fh p t mk li ch inc a' → Sh k p L0 w1 c' u' col' rest' w' → Tl rest' o → K a' w')
    (hX : o = none → ∀ a' w', a'.defers = [] → gt a' 6 = .bool false → Er k p w1 w' → Q .ret a' w') :
    gHd.wp Tryd.prog (Exit.then K Q) a w := by
  obtain ⟨u0, rfl⟩ : ∃ u0, u = u0 + 1 := ⟨u - 1, by omega⟩
  rw [gHd_eq]
  refine wp_seq (t6 hC hF hS hu fun a1 w2 hF1 hS1 e56 => ?_)
  have hch := hS1.here.ch
  have sgnA : ∀ {x : Int} {r : List Int}, rest = x :: r → (x = 43 ∨ x = 45) → (∀ a3 w3 u3 c3 col3, 1 ≤ u3 → Fh p t mk li (sgv x) 0 a3 → Sh k p L0 w1 c3 u3 col3 r w3 → (Code.seq g13 (.cond (.tmp 88) gAd .skip)).wp Tryd.prog (Exit.then K Q) a3 w3) → (Code.cond (.tmp 56) gA gB).wp Tryd.prog (Exit.then K Q) a1 w2 := by
    intro x r hx hc hgo
    subst hx
    have hfx : fb (x :: r) = x := fb_small (by omega)
    rw [hfx, pm_yes hc] at e56
    refine wp_cond_split (t := true) (show a1.tmps.getD 56 undef = _ from e56) (fun _ => ?_) (fun h => by cases h)
    rw [gA_eq]
    refine wp_seq (wp_seq (t7 hC hF1 hS1 hu fun a2 w3 hF2 hS2 e67 => ?_))
    rw [hfx] at e67
    have step2 : ∀ a4, Fh p t mk li (sgv x) 0 a4 → (Code.seq g10 (.seq gU11 (.seq g13 (.cond (.tmp 88) gAd .skip)))).wp Tryd.prog (Exit.then K Q) a4 w3 := by
      intro a4 hF4
      refine wp_seq (t10 hC hF4 hS2 fun a5 w5 hF5 hS5 => ?_)
      refine wp_seq (u11 hC hF5 hS5 fun a6 w6 u6 hF6 hS6 hR6 hu6 => ?_)
      exact hgo a6 w6 u6 _ _ hu6 hF6 hS6
    rcases hc with rfl | rfl
    · refine wp_cond_split (t := true) (show a2.tmps.getD 67 undef = _ from e67) (fun _ => ?_) (fun h => by cases h)
      refine t8 hF2 fun a4 hF4 => ?_
      exact step2 a4 hF4
    · refine wp_cond_split (t := false) (show a2.tmps.getD 67 undef = _ from e67) (fun h => by cases h) (fun _ => ?_)
      refine t9 hF2 fun a4 hF4 => ?_
      exact step2 a4 hF4
  have digB : ∀ {x : Int} {r : List Int}, rest = x :: r → (48 ≤ x ∧ x ≤ 57) → (∀ a3 w3, Fh p t mk li 0 0 a3 → Sh k p L0 w1 c (u0 + 1) col (x :: r) w3 → gBd.wp Tryd.prog (Exit.then K Q) a3 w3) → (Code.cond (.tmp 56) gA gB).wp Tryd.prog (Exit.then K Q) a1 w2 := by
    intro x r hx hd hgo
    subst hx
    have hfx : fb (x :: r) = x := fb_small (by omega)
    rw [hfx, pm_no (by omega) (by omega)] at e56
    refine wp_cond_split (t := false) (show a1.tmps.getD 56 undef = _ from e56) (fun h => by cases h) (fun _ => ?_)
    rw [gB_eq]
    refine wp_seq (t19 hC hF1 hS1 hu fun a2 w3 hF2 hS2 e122 => ?_)
    rw [hfx, digit_yes hd] at e122
    refine wp_cond_split (t := true) (show a2.tmps.getD 122 undef = _ from e122) (fun _ => ?_) (fun h => by cases h)
    exact hgo a2 w3 hF2 hS2
  have digB2 : ∀ {e : Nat} {r : List Int}, rest = (48 + e : Int) :: r → 1 ≤ e → e ≤ 9 → (∀ a3 w3 u3 c3 col3, 1 ≤ u3 → Fh p t mk li 0 e a3 → Sh k p L0 w1 c3 u3 col3 r w3 → (Code.seq g27 (.cond (.tmp 181) gBs .skip)).wp Tryd.prog (Exit.then K Q) a3 w3) → (Code.cond (.tmp 56) gA gB).wp Tryd.prog (Exit.then K Q) a1 w2 := by
    intro e r hx he1 he2 hgo
    refine digB hx (by omega) fun a3 w3 hF3 hS3 => ?_
    have hfx : fb ((48 + e : Int) :: r) = 48 + e := fb_small (by omega)
    rw [gBd_eq]
    refine wp_seq (wp_seq (t20 hC hF3 hS3 hu fun a4 w4 hF4 hS4 e133 => ?_))
    rw [hfx, nb (by omega)] at e133
    refine wp_cond_split (t := false) (show a4.tmps.getD 133 undef = _ from e133) (fun h => by cases h) (fun _ => wp_skip ?_)
    refine wp_seq (t23 hC hF4 hS4 hu hfx fun a5 w5 hF5 hS5 => ?_)
    refine wp_seq (t24 hC hF5 hS5 fun a6 w6 hF6 hS6 => ?_)
    refine wp_seq (u25 hC hF6 hS6 fun a7 w7 u7 hF7 hS7 hR7 hu7 => ?_)
    exact hgo a7 w7 u7 _ _ hu7 hF7 hS7
  cases h with
  | non h1 h2 h3 h4 =>
    rename_i c' r'
    have hv := fb_val (r := r') (hch c' (by simp))
    rw [pm_no (by omega) (by omega)] at e56
    refine wp_cond_split (t := false) (show a1.tmps.getD 56 undef = _ from e56) (fun h => by cases h) (fun _ => ?_)
    rw [gB_eq]
    refine wp_seq (t19 hC hF1 hS1 hu fun a2 w3 hF2 hS2 e122 => ?_)
    rw [digit_no (by omega)] at e122
    refine wp_cond_split (t := false) (show a2.tmps.getD 122 undef = _ from e122) (fun h => by cases h) (fun _ => wp_skip ?_)
    exact hK a2 w3 _ _ _ _ hF2 hS2 h4
  | sg h1 h2 h3 =>
    rename_i c' e' r'
    refine sgnA rfl h1 fun a3 w3 u3 c3 col3 hu3 hF3 hS3 => ?_
    have hv := fb_val (r := r') (hS3.here.ch e' (by simp))
    refine wp_seq (t13 hC hF3 hS3 hu3 fun a4 w4 hF4 hS4 e88 => ?_)
    rw [digit_no (by omega)] at e88
    refine wp_cond_split (t := false) (show a4.tmps.getD 88 undef = _ from e88) (fun h => by cases h) (fun _ => wp_skip ?_)
    exact hK a4 w4 _ _ _ _ hF4 hS4 h3
  | sd h1 h2 h3 h4 =>
    rename_i c' r'
    refine sgnA rfl h1 fun a3 w3 u3 c3 col3 hu3 hF3 hS3 => ?_
    have hfx : fb ((48 + inc : Int) :: r') = 48 + inc := fb_small (by omega)
    refine wp_seq (t13 hC hF3 hS3 hu3 fun a4 w4 hF4 hS4 e88 => ?_)
    rw [hfx, digit_yes (by omega)] at e88
    refine wp_cond_split (t := true) (show a4.tmps.getD 88 undef = _ from e88) (fun _ => ?_) (fun h => by cases h)
    rw [gAd_eq]
    refine wp_seq (wp_seq (t14 hC hF4 hS4 hu3 fun a5 w5 hF5 hS5 e99 => ?_))
    rw [hfx, nb (by omega)] at e99
    refine wp_cond_split (t := false) (show a5.tmps.getD 99 undef = _ from e99) (fun h => by cases h) (fun _ => wp_skip ?_)
    refine wp_seq (t17 hC hF5 hS5 hu3 hfx fun a6 w6 hF6 hS6 => ?_)
    obtain ⟨u4, rfl⟩ : ∃ u4, u3 = u4 + 1 := ⟨u3 - 1, by omega⟩
    refine t18 hC hF6 hS6 fun a7 w7 hF7 hS7 => ?_
    exact hK a7 w7 _ _ _ _ hF7 hS7 h4
  | s0 h1 =>
    rename_i c' r'
    refine sgnA rfl h1 fun a3 w3 u3 c3 col3 hu3 hF3 hS3 => ?_
    have hfx : fb (48 :: r') = 48 := fb_small (by omega)
    refine wp_seq (t13 hC hF3 hS3 hu3 fun a4 w4 hF4 hS4 e88 => ?_)
    rw [hfx, digit_yes (by omega)] at e88
    refine wp_cond_split (t := true) (show a4.tmps.getD 88 undef = _ from e88) (fun _ => ?_) (fun h => by cases h)
    rw [gAd_eq]
    refine wp_seq (wp_seq (t14 hC hF4 hS4 hu3 fun a5 w5 hF5 hS5 e99 => ?_))
    rw [hfx] at e99
    refine wp_cond_split (t := true) (show a5.tmps.getD 99 undef = _ from e99) (fun _ => ?_) (fun h => by cases h)
    exact t15 hC hF5 hS5 fun a6 w6 q1 q2 q3 => hX rfl a6 w6 q1 q2 q3
  | dg h1 h2 h3 h4 h5 =>
    rename_i c' r'
    refine digB2 rfl h1 h2 fun a3 w3 u3 c3 col3 hu3 hF3 hS3 => ?_
    have hv := fb_val (r := r') (hS3.here.ch c' (by simp))
    refine wp_seq (t27 hC hF3 hS3 hu3 fun a4 w4 hF4 hS4 e181 => ?_)
    rw [pm_no (by omega) (by omega)] at e181
    refine wp_cond_split (t := false) (show a4.tmps.getD 181 undef = _ from e181) (fun h => by cases h) (fun _ => wp_skip ?_)
    exact hK a4 w4 _ _ _ _ hF4 hS4 h5
  | ds h1 h2 h3 h4 =>
    rename_i c' r'
    refine digB2 rfl h1 h2 fun a3 w3 u3 c3 col3 hu3 hF3 hS3 => ?_
    have hfx : fb (c' :: r') = c' := fb_small (by omega)
    refine wp_seq (t27 hC hF3 hS3 hu3 fun a4 w4 hF4 hS4 e181 => ?_)
    rw [hfx, pm_yes h3] at e181
    refine wp_cond_split (t := true) (show a4.tmps.getD 181 undef = _ from e181) (fun _ => ?_) (fun h => by cases h)
    rw [gBs_eq]
    refine wp_seq (wp_seq (t28 hC hF4 hS4 hu3 fun a5 w5 hF5 hS5 e192 => ?_))
    rw [hfx] at e192
    obtain ⟨u4, rfl⟩ : ∃ u4, u3 = u4 + 1 := ⟨u3 - 1, by omega⟩
    rcases h3 with rfl | rfl
    · refine wp_cond_split (t := true) (show a5.tmps.getD 192 undef = _ from e192) (fun _ => ?_) (fun h => by cases h)
      refine t29 hF5 fun a6 hF6 => ?_
      refine t31 hC hF6 hS5 fun a7 w7 hF7 hS7 => ?_
      exact hK a7 w7 _ _ _ _ hF7 hS7 h4
    · refine wp_cond_split (t := false) (show a5.tmps.getD 192 undef = _ from e192) (fun h => by cases h) (fun _ => ?_)
      refine t30 hF5 fun a6 hF6 => ?_
      refine t31 hC hF6 hS5 fun a7 w7 hF7 hS7 => ?_
      exact hK a7 w7 _ _ _ _ hF7 hS7 h4
  | d0 =>
    rename_i r'
    refine digB rfl (by omega) fun a3 w3 hF3 hS3 => ?_
    have hfx : fb (48 :: r') = 48 := fb_small (by omega)
    rw [gBd_eq]
    refine wp_seq (wp_seq (t20 hC hF3 hS3 hu fun a4 w4 hF4 hS4 e133 => ?_))
    rw [hfx] at e133
    refine wp_cond_split (t := true) (show a4.tmps.getD 133 undef = _ from e133) (fun _ => ?_) (fun h => by cases h)
    exact t21 hC hF4 hS4 fun a6 w6 q1 q2 q3 => hX rfl a6 w6 q1 q2 q3
/-- White is passed over. -/
theorem bl_round {k : Kn} {p t mk : Nat} {s0 s1 s2 : Int} {L0 : List Value} {w1 : World} (hC : Ch1 k p mk s0 s1 s2 L0 w1) {li : Bool} {ch : Int} {inc c u col : Nat} {rest : List Int} {a : Act} {w : World} {K : Act → World → Prop} {Q : Exit → Act → World → Prop} (hF : Fh p t mk li ch inc a) (hS : Sh k p L0 w1 c u col rest w) (hu : 1 ≤ u) {o : Option (List Int)} (h : Tl rest o)
    (hK : ∀ a' w' c' u' col' rest', c < c' → c' ≤ k.T.length → 1 ≤ u' → Fh p t mk li ch inc a' → Sh k p L0 w1 c' u' col' rest' w' → Tl rest' o → K a' w')
    (hX : ∀ a' w', isBlank (fb rest) = false → Fh p t mk li ch inc a' → Sh k p L0 w1 c u col rest w' → Q (.exit 0) a' w') :
    gBl.wp Tryd.prog (Exit.then K Q) a w := by
  rw [gBl_eq]
  refine wp_seq (wp_seq (t34 hC hF hS hu fun a1 w2 hF1 hS1 e213 => ?_))
  cases hb : isBlank (fb rest) with
  | false =>
    rw [hb] at e213
    refine wp_cond_split (t := false) (show a1.tmps.getD 213 undef = _ from e213) (fun h => by cases h) (fun _ => wp_exit ?_)
    exact hX a1 w2 hb hF1 hS1
  | true =>
    rw [hb] at e213
    refine wp_cond_split (t := true) (show a1.tmps.getD 213 undef = _ from e213) (fun _ => wp_skip ?_) (fun h => by cases h)
    have hv : ∀ x r, rest = x :: r → x = 32 ∨ x = 9 := by
      rintro x r rfl
      have hv := fb_val (r := r) (hS1.here.ch x (by simp))
      unfold isBlank at hb
      simp at hb
      omega
    cases h with
    | wht h1 h2 =>
      rename_i c' r'
      obtain ⟨u0, rfl⟩ : ∃ u0, u = u0 + 1 := ⟨u - 1, by omega⟩
      refine wp_block ?_
      rw [then_block]
      refine wp_seq (t35 hC hF1 hS1 fun a2 w3 hF2 hS2 => ?_)
      have hpos := u8_pos c'
      refine u36 hC hF2 hS2 fun a3 w4 u4 hF3 hS3 hR3 hu3 => ?_
      exact hK a3 w4 _ _ _ _ (by omega) hS3.here.fro.2 hu3 hF3 hS3 h2
    | nl => have := hv _ _ rfl; omega
    | cm h1 => have := hv _ _ rfl; omega
    | bad h1 h2 h3 h4 => have := hv _ _ rfl; omega
theorem bl_loop {k : Kn} {p t mk : Nat} {s0 s1 s2 : Int} {L0 : List Value} {w1 : World} (hC : Ch1 k p mk s0 s1 s2 L0 w1) {li : Bool} {ch : Int} {inc c u col : Nat} {rest : List Int} {a : Act} {w : World} {K : Act → World → Prop} {Q : Exit → Act → World → Prop} (hF : Fh p t mk li ch inc a) (hS : Sh k p L0 w1 c u col rest w) (hu : 1 ≤ u) {o : Option (List Int)} (h : Tl rest o)
    (hX : ∀ a' w' c' u' col' rest', isBlank (fb rest') = false → 1 ≤ u' → Fh p t mk li ch inc a' → Sh k p L0 w1 c' u' col' rest' w' → Tl rest' o → K a' w') :
    (Code.block 0 (Code.loop gBl)).wp Tryd.prog (Exit.then K Q) a w := by
  refine wp_block ?_
  refine wp_loop_ghost_k (fun g a2 w2 => ∃ c2 u2 col2 rest2, g = k.T.length - c2 ∧ c2 ≤ k.T.length ∧ 1 ≤ u2 ∧ Fh p t mk li ch inc a2 ∧ Sh k p L0 w1 c2 u2 col2 rest2 w2 ∧ Tl rest2 o) (k.T.length - c) ⟨c, u, col, rest, rfl, hS.here.fro.2, hu, hF, hS, h⟩ ?_
  rintro g a2 w2 ⟨c2, u2, col2, rest2, rfl, hcl2, hu2, hF2, hS2, h2⟩ J K2 hJ hK2
  refine bl_round hC hF2 hS2 hu2 h2 ?_ ?_
  · intro a3 w3 c3 u3 col3 rest3 hlt hcl3 hu3 hF3 hS3 h3
    exact hK2 _ _ (Handed.intro (k.T.length - c3) (by omega) (hJ _ _ _ ⟨c3, u3, col3, rest3, rfl, hcl3, hu3, hF3, hS3, h3⟩))
  · intro a3 w3 hb hF3 hS3
    exact hX a3 w3 c2 u2 col2 rest2 hb hu2 hF3 hS3 h2
/-- What is left of a comment is passed over. -/
theorem cm_round {k : Kn} {p t mk : Nat} {s0 s1 s2 : Int} {L0 : List Value} {w1 : World} (hC : Ch1 k p mk s0 s1 s2 L0 w1) {li : Bool} {ch : Int} {inc c u col : Nat} {a : Act} {w : World} {K : Act → World → Prop} {Q : Exit → Act → World → Prop} (hF : Fh p t mk li ch inc a) {row r : List Int} (hS : Sh k p L0 w1 c u col (row ++ 10 :: r) w) (hu : 1 ≤ u) (hrow : ∀ y ∈ row, y ≠ 10)
    (hK : ∀ a' w' c' u' col' row', c < c' → c' ≤ k.T.length → 1 ≤ u' → Fh p t mk li ch inc a' → Sh k p L0 w1 c' u' col' (row' ++ 10 :: r) w' → (∀ y ∈ row', y ≠ 10) → K a' w')
    (hX : ∀ a' w' c' u' col', 1 ≤ u' → Fh p t mk li ch inc a' → Sh k p L0 w1 c' u' col' (10 :: r) w' → Q (.exit 2) a' w') :
    gCl.wp Tryd.prog (Exit.then K Q) a w := by
  rw [gCl_eq]
  refine wp_seq (wp_seq (t41 hC hF hS hu fun a1 w2 hF1 hS1 e250 => ?_))
  cases row with
  | nil =>
    refine wp_cond_split (t := false) (show a1.tmps.getD 250 undef = _ from e250) (fun h => by cases h) (fun _ => wp_exit ?_)
    exact hX a1 w2 c u col hu hF1 hS1
  | cons x row =>
    have hb : isBrz (fb (x :: row ++ 10 :: r)) = false := Cm.isBrz_of (hS1.here.ch x (by simp)) (hrow x (by simp))
    rw [hb] at e250
    refine wp_cond_split (t := true) (show a1.tmps.getD 250 undef = _ from e250) (fun _ => wp_skip ?_) (fun h => by cases h)
    obtain ⟨u0, rfl⟩ : ∃ u0, u = u0 + 1 := ⟨u - 1, by omega⟩
    refine wp_block ?_
    rw [then_block]
    refine wp_seq (t42 hC hF1 (r := row ++ 10 :: r) hS1 fun a2 w3 hF2 hS2 => ?_)
    have hpos := u8_pos x
    refine u43 hC hF2 hS2 fun a3 w4 u4 hF3 hS3 hR3 hu3 => ?_
    exact hK a3 w4 _ _ _ row (by omega) hS3.here.fro.2 hu3 hF3 hS3 (fun y hy => hrow y (by simp [hy]))
theorem cm_loop {k : Kn} {p t mk : Nat} {s0 s1 s2 : Int} {L0 : List Value} {w1 : World} (hC : Ch1 k p mk s0 s1 s2 L0 w1) {li : Bool} {ch : Int} {inc c u col : Nat} {a : Act} {w : World} {K : Act → World → Prop} {Q : Exit → Act → World → Prop} (hF : Fh p t mk li ch inc a) {row r : List Int} (hS : Sh k p L0 w1 c u col (row ++ 10 :: r) w) (hu : 1 ≤ u) (hrow : ∀ y ∈ row, y ≠ 10)
    (hX : ∀ a' w' c' u' col', 1 ≤ u' → Fh p t mk li ch inc a' → Sh k p L0 w1 c' u' col' (10 :: r) w' → K a' w') :
    (Code.block 2 (Code.loop gCl)).wp Tryd.prog (Exit.then K Q) a w := by
  refine wp_block ?_
  refine wp_loop_ghost_k (fun g a2 w2 => ∃ c2 u2 col2 row2, g = k.T.length - c2 ∧ c2 ≤ k.T.length ∧ 1 ≤ u2 ∧ Fh p t mk li ch inc a2 ∧ Sh k p L0 w1 c2 u2 col2 (row2 ++ 10 :: r) w2 ∧ (∀ y ∈ row2, y ≠ 10)) (k.T.length - c) ⟨c, u, col, row, rfl, hS.here.fro.2, hu, hF, hS, hrow⟩ ?_
  rintro g a2 w2 ⟨c2, u2, col2, row2, rfl, hcl2, hu2, hF2, hS2, h2⟩ J K2 hJ hK2
  refine cm_round hC hF2 hS2 hu2 h2 ?_ ?_
  · intro a3 w3 c3 u3 col3 row3 hlt hcl3 hu3 hF3 hS3 h3
    exact hK2 _ _ (Handed.intro (k.T.length - c3) (by omega) (hJ _ _ _ ⟨c3, u3, col3, row3, rfl, hcl3, hu3, hF3, hS3, h3⟩))
  · intro a3 w3 c3 u3 col3 hu3 hF3 hS3
    exact hX a3 w3 c3 u3 col3 hu3 hF3 hS3
/-- From the indicators on to the next line. -/
theorem head_any {k : Kn} {p t mk : Nat} {s0 s1 s2 : Int} {L0 : List Value} {w1 : World} (hC : Ch1 k p mk s0 s1 s2 L0 w1) {li : Bool} {c u col : Nat} {rest : List Int} {a : Act} {w : World} {K : Act → World → Prop} {Q : Exit → Act → World → Prop} (hF : Fh p t mk li 0 0 a) (hS : Sh k p L0 w1 c u col rest w) (hu : 1 ≤ u) (h32 : L0[32]? = some (.slice none 0 0)) {o : Option (List Int)} {ch : Int} {inc : Nat} (h : Hd rest ch inc o) {Z : Code}
    (hK : ∀ r, o = some r → ∀ a' w' L0' c' u', Fh p t mk li ch inc a' → Sh k p L0' w1 c' u' 0 r w' → (∀ j, j ≠ 32 → L0'[j]? = L0[j]?) → L0'.length = 52 → Z.wp Tryd.prog (Exit.then K Q) a' w')
    (hX : o = none → ∀ a' w', a'.defers = [] → gt a' 6 = .bool false → Er k p w1 w' → Q .ret a' w') :
    (Code.seq gHd (.seq gU32 (.seq (.block 0 (.loop gBl)) (.seq gCm (.seq gEr (.seq gNl Z)))))).wp Tryd.prog (Exit.then K Q) a w := by
  refine wp_seq (hd_step hC hF hS hu h (fun a1 w2 c1 u1 col1 rest1 hF1 hS1 h1 => ?_) hX)
  refine wp_seq (u32 hC hF1 hS1 fun a2 w3 u2 hF2 hS2 hR2 hu2 => ?_)
  refine wp_seq (bl_loop hC hF2 hS2 hu2 h1 fun a3 w4 c3 u3 col3 rest3 hb3 hu3 hF3 hS3 h3 => ?_)
  -- at the line's end
  have fin : ∀ a4 w5 L0' c4 u4 col4 r, o = some r → 1 ≤ u4 → Fh p t mk li ch inc a4 → Sh k p L0' w1 c4 u4 col4 (10 :: r) w5 → (∀ j, j ≠ 32 → L0'[j]? = L0[j]?) → L0'.length = 52 → (Code.seq gEr (.seq gNl Z)).wp Tryd.prog (Exit.then K Q) a4 w5 := by
    intro a4 w5 L0' c4 u4 col4 r ho hu4 hF4 hS4 hj hl
    have hC' : Ch1 k p mk s0 s1 s2 L0' w1 := ⟨hC.round, hC.two, hC.mark, hC.own, cells_agree hC.cells hl hj⟩
    have hfx : fb (10 :: r) = 10 := fb_small (by omega)
    rw [gEr_eq]
    refine wp_seq (wp_seq (t45 hC' hF4 hS4 hu4 fun a5 w6 hF5 hS5 e272 => ?_))
    rw [hfx] at e272
    refine wp_cond_split (t := false) (show a5.tmps.getD 272 undef = _ from e272) (fun h => by cases h) (fun _ => wp_skip ?_)
    rw [gNl_eq]
    refine wp_seq (wp_seq (t48 hC' hF5 hS5 hu4 fun a6 w7 hF6 hS6 e284 => ?_))
    rw [hfx] at e284
    refine wp_cond_split (t := true) (show a6.tmps.getD 284 undef = _ from e284) (fun _ => ?_) (fun h => by cases h)
    refine wp_seq (u49 hC' hF6 hS6 fun a7 w8 u7 hF7 hS7 hR7 hu7 => ?_)
    obtain ⟨u8', rfl⟩ : ∃ u8', u7 = u8' + 1 := ⟨u7 - 1, by omega⟩
    refine t51 hC' hF7 hS7 fun a8 w9 hF8 hS8 => ?_
    exact hK r ho a8 w9 L0' _ _ hF8 hS8 hj hl
  have nocm : fb rest3 ≠ 35 → ∀ Y : Code, (∀ a4 w5, Fh p t mk li ch inc a4 → Sh k p L0 w1 c3 u3 col3 rest3 w5 → Y.wp Tryd.prog (Exit.then K Q) a4 w5) → (Code.seq gCm Y).wp Tryd.prog (Exit.then K Q) a3 w4 := by
    intro hne Y hY
    rw [gCm_eq]
    refine wp_seq (wp_seq (t38 hC hF3 hS3 hu3 fun a4 w5 hF4 hS4 e236 => ?_))
    rw [nb hne] at e236
    refine wp_cond_split (t := false) (show a4.tmps.getD 236 undef = _ from e236) (fun h => by cases h) (fun _ => wp_skip ?_)
    exact hY a4 w5 hF4 hS4
  have hl0 := hC.cells.len
  cases h3 with
  | wht g1 g2 =>
    rename_i x r
    rw [fb_small (by omega)] at hb3
    rcases g1 with rfl | rfl <;> cases hb3
  | nl =>
    rename_i r
    refine nocm (by rw [fb_small (by omega)]; omega) _ fun a4 w5 hF4 hS4 => ?_
    exact fin a4 w5 L0 c3 u3 col3 r rfl hu3 hF4 hS4 (fun _ _ => rfl) hl0
  | cm g1 =>
    rename_i row r
    have hfx : fb (35 :: row ++ 10 :: r) = 35 := fb_small (by omega)
    rw [gCm_eq]
    refine wp_seq (wp_seq (t38 hC hF3 hS3 hu3 fun a4 w5 hF4 hS4 e236 => ?_))
    rw [hfx] at e236
    refine wp_cond_split (t := true) (show a4.tmps.getD 236 undef = _ from e236) (fun _ => ?_) (fun h => by cases h)
    obtain ⟨u4, rfl⟩ : ∃ u4, u3 = u4 + 1 := ⟨u3 - 1, by omega⟩
    refine wp_seq (t39 hC hF4 hS4 g1 h32 hl0 fun a5 w6 L0' c5 u5 col5 row5 hF5 hS5 hr5 hj hl hu5 => ?_)
    have hC' : Ch1 k p mk s0 s1 s2 L0' w1 := ⟨hC.round, hC.two, hC.mark, hC.own, cells_agree hC.cells hl hj⟩
    refine cm_loop hC' hF5 hS5 hu5 hr5 fun a6 w7 c6 u6 col6 hu6 hF6 hS6 => ?_
    exact fin a6 w7 L0' c6 u6 col6 r rfl hu6 hF6 hS6 hj hl
  | bad g1 g2 g3 g4 =>
    rename_i x r
    have hv := fb_val (r := r) (hS3.here.ch x (by simp))
    have hx := (hS3.here.ch x (by simp)).range
    refine nocm (by omega) _ fun a4 w5 hF4 hS4 => ?_
    rw [gEr_eq]
    refine wp_seq (wp_seq (t45 hC hF4 hS4 hu3 fun a5 w6 hF5 hS5 e272 => ?_))
    rw [isBrz_no (by omega) (by omega)] at e272
    refine wp_cond_split (t := true) (show a5.tmps.getD 272 undef = _ from e272) (fun _ => ?_) (fun h => by cases h)
    exact t46 hC hF5 hS5 fun a6 w7 q1 q2 q3 => hX rfl a6 w7 q1 q2 q3
end Go.Proofs.YtocbbekciphjgaaDoor.Bs
/- QiH -/
/- A block scalar is scanned (yaml_parser_scan_block_scalar): the contract. Printed by genQi.py. -/
namespace Go.Proofs.YtocbbekciphjgaaDoor.Bs
open Go.RowKit Go.Proofs.YtocbbekciphjgaaDoor.Rdp Go.Proofs.YtocbbekciphjgaaDoor.Pa Go.Proofs.YtocbbekciphjgaaDoor.Sc Go.Proofs.YtocbbekciphjgaaDoor.Qd
set_option linter.unusedVariables false
set_option linter.unusedSimpArgs false
theorem ind_eq {e m : Nat} {n : Int} : ind (ind0 e n) m n = (if e = 0 then max (max m (n + 1).toNat) 1 else (max n 0).toNat + e) := by
  unfold ind ind0
  by_cases h : e = 0
  · rw [if_pos h, if_pos rfl, if_pos h]
  · rw [if_neg h, if_neg (by omega), if_neg h]
theorem Hd.le9 {l : List Int} {ch : Int} {e : Nat} {o : Option (List Int)} (h : Hd l ch e o) : e ≤ 9 := by cases h <;> omega
/-- What is left where a block scalar has been scanned. -/
def ScdB (p t : Nat) (k : Kn) (fold : Bool) (v : Option (List Int)) (w : World) (e : Ending) (w' : World) : Prop :=
  (∃ out sv, v = some out ∧ e = .returned (.bool true) ∧ (∃ s0 s1 s2 e0 e1 e2, Bk w' t 78 (tok 21 s0 s1 s2 e0 e1 e2 0 sv (.slice none 0 0) (.slice none 0 0) (if fold then 32 else 16) 0 0)) ∧ Tx w' sv (us out) ∧ Kp (t :: k.bs p) w w') ∨
  (v = none ∧ e = .returned (.bool false) ∧ Er k p w w')
noncomputable def fr79 (p t : Nat) (li : Bool) : Act := { tmps := #[.pointer (some ⟨p, 0, none⟩), .pointer (some ⟨t, 0, none⟩), .bool li] ++ Array.replicate (Tryd.f79.ntmps - 3) undef, defers := [] }
theorem ntmps79 : Tryd.f79.ntmps = 464 := by kernel_rfl
theorem fr79_size (p t : Nat) (li : Bool) : (fr79 p t li).tmps.size = 464 := by
  unfold fr79
  rw [ntmps79]
  simp
theorem fr79_at (p t : Nat) (li : Bool) : gt (fr79 p t li) 0 = .pointer (some ⟨p, 0, none⟩) ∧ gt (fr79 p t li) 1 = .pointer (some ⟨t, 0, none⟩) ∧ gt (fr79 p t li) 2 = .bool li := by
  unfold gt fr79
  rw [ntmps79]
  refine ⟨?_, ?_, ?_⟩ <;> simp [Array.getElem?_append]
theorem res79 : Tryd.f79.results = #[.tmp 6] := by kernel_rfl
theorem results79 (a : Act) (b : Bool) (h : gt a 6 = .bool b) (w : World) : (results Tryd.f79 a.tmps).run Tryd.prog w = .ok (.bool b) w := by
  have h6 : a.tmps.getD 6 undef = .bool b := h
  unfold results
  rw [res79]
  simp only [Array.mapM_eq_mapM_toList, List.mapM_cons, List.mapM_nil, h6]
  simp [h6]
/-- Behind the lines: chomping, and the token. -/
theorem chomp_any {k : Kn} {p t mk lo ib bb eb : Nat} {s0 s1 s2 : Int} {L0 : List Value} {pn : Int} {w1 : World} (hC : Cq k p mk lo ib bb eb s0 s1 s2 L0 pn w1) {li : Bool} {ch : Int} {d : Nat} {S : List Int} {B : Bool} {N : Nat} {a : Act} {w : World} {K : Act → World → Prop} {Q : Exit → Act → World → Prop} (h : Eq' k p t mk lo ib bb eb L0 w1 li ch d S B N a w) (ht1 : Bk w1 t 78 tok0) (htn : t ∉ ib :: bb :: eb :: k.bs p)
    (hX : ∀ a' w' sv (e0 e1 e2 : Int), a'.defers = [] → gt a' 6 = .bool true → Bk w' t 78 (tok 21 s0 s1 s2 e0 e1 e2 0 sv (.slice none 0 0) (.slice none 0 0) (if li then 16 else 32) 0 0) → Tx w' sv (us (S ++ (if ch ≠ -1 ∧ B = true then [10] else []) ++ (if ch = 1 then nls N else []))) → Kp (t :: ib :: bb :: eb :: k.bs p) w1 w' → Q .ret a' w') :
    (Code.seq g83 (.seq g85 (.seq g87 (.seq g88 g90)))).wp Tryd.prog (Exit.then K Q) a w := by
  obtain ⟨c, u, col, rest, sv, lbv, tbv, v15, v16, hF, hS, hz⟩ := h
  have fin : ∀ a3 w3 v3 (out lb2 : List Int) N2, Fq p t mk li ch eb ib bb v3 lbv v15 v16 a3 → Sq k p lo ib bb eb L0 w1 c u col rest d (us out) lb2 N2 v3 lbv tbv w3 → out = S ++ (if ch ≠ -1 ∧ B = true then [10] else []) ++ (if ch = 1 then nls N else []) → (Code.seq g87 (.seq g88 g90)).wp Tryd.prog (Exit.then K Q) a3 w3 := by
    intro a3 w3 v3 out lb2 N2 hF3 hS3 ho
    obtain ⟨e0, e1, e2, he⟩ := hS3.be
    have ht3 := ht1.kp hS3.kp htn
    have htl := ht1.lt
    refine wp_seq (q87 hF3 (hC.mark.kp hS3.kp hC.own) he ht3 (by obtain ⟨A, cap, h⟩ := hS3.r12.slice; exact ⟨_, _, _, h⟩) fun a4 w4 hF4 ht4 hk4 => ?_)
    refine wp_seq (q88 hF4 ht4 fun a5 w5 hF5 ht5 hk5 => ?_)
    refine q90 hF5 fun a6 d6 h6 => ?_
    refine hX a6 w5 v3 e0 e1 e2 d6 h6 ht5 ?_ ?_
    · rw [← ho]
      exact (hS3.r12.kp (hk4.trans hk5) (fun b hb hh => by
        have h1 := (hS3.r12.own b hb).1
        have := hC.low
        rw [List.mem_singleton] at hh
        omega)).tx
    · exact (hS3.kp.mono (fun b hb => List.mem_cons_of_mem _ hb)).trans ((hk4.trans hk5).mono (by simp))
  have keep : ∀ a3 w3 v3 (out lb2 : List Int), Fq p t mk li ch eb ib bb v3 lbv v15 v16 a3 → Sq k p lo ib bb eb L0 w1 c u col rest d (us out) lb2 N v3 lbv tbv w3 → (us out).length + lb2.length + N + N ≤ 4 * c → out = S ++ (if ch ≠ -1 ∧ B = true then [10] else []) → (Code.seq g85 (.seq g87 (.seq g88 g90))).wp Tryd.prog (Exit.then K Q) a3 w3 := by
    intro a3 w3 v3 out lb2 hF3 hS3 hz3 ho
    rw [g85_eq]
    refine wp_seq (wp_seq (q85 hF3 fun a4 hF4 e449 => ?_))
    by_cases h1 : ch = 1
    · rw [show (ch == 1) = true by simpa using h1] at e449
      refine wp_cond_split (t := true) (show a4.tmps.getD 449 undef = _ from e449) (fun _ => ?_) (fun h => by cases h)
      refine q86 hC hF4 hS3 hz3 fun a5 w5 v5 hF5 hS5 => ?_
      rw [show us out ++ nls N = us (out ++ nls N) by rw [us_app, us_nls]] at hS5
      exact fin a5 w5 v5 _ lb2 N hF5 hS5 (by rw [ho, if_pos h1])
    · rw [show (ch == 1) = false by simpa using h1] at e449
      refine wp_cond_split (t := false) (show a4.tmps.getD 449 undef = _ from e449) (fun h => by cases h) (fun _ => wp_skip ?_)
      exact fin a4 w3 v3 out lb2 N hF4 hS3 (by rw [ho, if_neg h1, List.append_nil])
  rw [g83_eq]
  refine wp_seq (wp_seq (q83 hF fun a4 hF4 e444 => ?_))
  by_cases h1 : ch = -1
  · rw [show (ch != -1) = false by simp [h1]] at e444
    refine wp_cond_split (t := false) (show a4.tmps.getD 444 undef = _ from e444) (fun h => by cases h) (fun _ => wp_skip ?_)
    exact keep a4 w sv S (lbl B) hF4 hS (by omega) (by rw [if_neg (fun h => h.1 h1), List.append_nil])
  · rw [show (ch != -1) = true by simpa using h1] at e444
    refine wp_cond_split (t := true) (show a4.tmps.getD 444 undef = _ from e444) (fun _ => ?_) (fun h => by cases h)
    refine q84 hC hF4 hS (by omega) fun a5 w5 v5 hF5 hS5 => ?_
    rw [show us S ++ lbl B = us (S ++ lbl B) by rw [us_app, us_lbl]] at hS5
    refine keep a5 w5 v5 _ (lbl B) hF5 hS5 (by rw [us_app, us_lbl, List.length_append]; omega) ?_
    unfold lbl
    cases B <;> simp [h1]
theorem block_any (k : Kn) (p t c u col : Nat) (fold : Bool) (pn : Int) (L0 : List Value) (x : Int) (rest : List Int) (v : Option (List Int)) (w : World) (hr : RoundOk k p) (hA : At k p L0 c (u + 1) col (x :: rest) w) (hce : Sc.Cells L0) (h32 : L0[32]? = some (.slice none 0 0)) (h41 : L0[41]? = some (.int .i64 pn)) (hp0 : -1 ≤ pn) (hp1 : pn ≤ 1000000) (hv : Block fold pn rest v) (ht : Bk w t 78 tok0) (hft : Far k p t) (hg : 2 < w.heap.size) :
    Calls Tryd.prog 79 #[.pointer (some ⟨p, 0, none⟩), .pointer (some ⟨t, 0, none⟩), .bool (!fold)] w (ScdB p t k fold v w) := by
  refine calls_of_wp (fn := Tryd.f79) (c := gZ) Tryd.func79 gbody_eq ?_
  show gZ.wp Tryd.prog _ (fr79 p t (!fold)) w
  obtain ⟨g0, g1, g2⟩ := fr79_at p t (!fold)
  have hfar : ∀ g, w.heap.size ≤ g → Far k p g := by
    obtain ⟨bp, bl, mi, ml, z, L, hR, _⟩ := hA.ex
    exact fun g hg => far_new hR hg
  have hret : ∀ (b : Bool) (a' : Act) (w' : World), a'.defers = [] → gt a' 6 = .bool b → ScdB p t k fold v w (.returned (.bool b)) w' → bodyPost Tryd.prog Tryd.f79 (ScdB p t k fold v w) .ret a' w' := fun b a' w' hd h6 h => ⟨hd, _, results79 a' b h6 w', h⟩
  rw [gZ_eq, ← then_self (bodyPost Tryd.prog Tryd.f79 (ScdB p t k fold v w))]
  refine wp_seq (r0t (fr79_size p t _) rfl g0 g1 g2 fun a1 z1 d1 x0 x1 x2 => ?_)
  refine wp_seq (r1t z1 d1 x0 x1 x2 hA fun a2 w2 s0 s1 s2 z2 d2 y0 y1 y2 y7 hmk hb2 hs2 => ?_)
  have hk2 : Kp [] w w2 := Kp.of_below hb2
  have hA2 := hA.far hk2 (by simp)
  refine wp_seq (r2t z2 d2 y0 y1 y2 y7 hA2 fun a3 w3 z3 d3 t0 t1 t2 t7 hA3 hk3 => ?_)
  refine wp_seq (r3t z3 d3 t0 t1 t2 t7 hr hA3 (by have := hk3.size; omega) fun a4 w4 u4 z4 d4 m0 m1 m2 m7 hA4 hk4 hu4 => ?_)
  refine wp_seq (r5t z4 d4 m0 m1 m2 m7 fun a5 hF5 => ?_)
  have hC1 : Ch1 k p w.heap.size s0 s1 s2 L0 w2 := ⟨hr, by omega, hmk, (hfar _ (Nat.le_refl _)).1, hce⟩
  have hS4 : Sh k p L0 w2 (c + (u8 x).length) u4 (col + 1) rest w4 := ⟨hA4, hk3.trans hk4⟩
  have hX0 : ∀ (o : Option (List Int)), v = none → o = none → ∀ a' w', a'.defers = [] → gt a' 6 = .bool false → Er k p w2 w' → bodyPost Tryd.prog Tryd.f79 (ScdB p t k fold v w) .ret a' w' := by
    intro o hvn _ a' w' hd h6 her
    refine hret false a' w' hd h6 (.inr ⟨hvn, rfl, ?_⟩)
    obtain ⟨L', q1, q2, q3, q4⟩ := her
    exact ⟨L', q1, q2, q3, (hk2.mono (by simp)).trans q4⟩
  cases hv with
  | bad h1 => exact head_any hC1 hF5 hS4 hu4 h32 h1 (fun r ho => by cases ho) (hX0 none rfl)
  | says h1 h2 h3 h4 =>
    rename_i r q S ch e d nb m k' N B
    refine head_any hC1 hF5 hS4 hu4 h32 h1 ?_ (fun h => by cases h)
    intro r' hrr a6 w6 L1 c6 u6 hF6 hS6 hj hl1
    cases hrr
    have h41' : L1[41]? = some (.int .i64 pn) := (hj 41 (by omega)).trans h41
    have hsz6 : w2.heap.size ≤ w6.heap.size := hS6.kp.size
    have hpl : p < w.heap.size := by
      obtain ⟨bp, bl, mi, ml, z, L, hR, _⟩ := hA.ex
      exact hR.pb.lt
    refine wp_seq (q52 hF6 hS6.here fun a7 w7 e0 e1 e2 hF7 h710 hbe hb7 hs7 => ?_)
    refine wp_seq (q53 hF7 h710 fun a8 w8 hF8 h810 h811 hbi hb8 hs8 => ?_)
    have hk7 : Kp [] w6 w7 := Kp.of_below hb7
    have hk8 : Kp [] w7 w8 := Kp.of_below hb8
    have hA8 := (hS6.here.far hk7 (by simp)).far hk8 (by simp)
    refine wp_seq (qIn hF8 hA8 h810 h811 hbi h41' hp0 hp1 (Hd.le9 h1) (by omega) fun a9 w9 hF9 h910 h911 hbi9 hk9 => ?_)
    refine wp_seq (q58 hF9 h910 h911 fun a10 w10 v15 v16 hF10 hbv hb10 hs10 => ?_)
    have hk10 : Kp [] w9 w10 := Kp.of_below hb10
    have hsz9 := hk9.size
    have hA10 := (hA8.far hk9 (by intro b hb; rw [List.mem_singleton] at hb; rw [hb]; exact hfar _ (by omega))).far hk10 (by simp)
    have hbe10 : Bk w10 w6.heap.size 74 [.int .i64 e0, .int .i64 e1, .int .i64 e2] := ((hbe.kp hk8 (by simp)).kp hk9 (by simp; omega)).kp hk10 (by simp)
    have hbi10 : Bk w10 w7.heap.size 3 [.int .i64 (ind0 e pn : Nat)] := hbi9.kp hk10 (by simp)
    have hcb : Cb k p w10.heap.size w7.heap.size w9.heap.size w6.heap.size L1 pn := ⟨hr, hfar _ (by omega), hfar _ (by omega), hfar _ (by omega), fun g hg => hfar g (by omega), by omega, by omega, by omega, by omega, by omega, by omega, h41', hp0, hp1, by omega⟩
    have hkp210 : Kp (w7.heap.size :: k.bs p) w2 w10 := ((((hS6.kp.mono (fun b hb => List.mem_cons_of_mem _ hb)).trans (hk7.mono (by simp))).trans (hk8.mono (by simp))).trans (hk9.mono (by simp))).trans (hk10.mono (by simp))
    have hmk10 : Bk w10 w.heap.size 74 [.int .i64 s0, .int .i64 s1, .int .i64 s2] := hmk.kp hkp210 (by
      simp only [List.mem_cons, not_or]
      exact ⟨by omega, (hfar _ (Nat.le_refl _)).1⟩)
    have hCq : Cq k p w.heap.size w10.heap.size w7.heap.size w9.heap.size w6.heap.size s0 s1 s2 L1 pn w10 := ⟨hcb, rfl, hmk10, by
      simp only [List.mem_cons, not_or]
      exact ⟨by omega, by omega, by omega, (hfar _ (Nat.le_refl _)).1⟩⟩
    have hS10 : Sq k p w10.heap.size w7.heap.size w9.heap.size w6.heap.size L1 w10 c6 u6 0 r (ind0 e pn) [] [] 0 (.slice none 0 0) (.slice none 0 0) (.slice none 0 0) w10 := ⟨hA10, hbi10, hbv, ⟨_, _, _, hbe10⟩, Row.nil _ _, Row.nil _ _, Row.nil _ _, Sep.nil _, Sep.nil _, Sep.nil _, Kp.refl _ _, by simp⟩
    have hB0 : Brk (ind0 e pn) 0 0 r nb m k' q := h2
    refine wp_seq (q59 hCq hF10 hS10 hB0 fun a11 w11 c11 u11 v11 hc11 hu11 hF11 hS11 => ?_)
    rw [ind_eq, ← h3, Nat.zero_add] at hS11
    refine wp_seq (q61 hCq hF11 hS11 fun a12 w12 u12 hF12 hS12 hR12 hu12 => ?_)
    refine wp_seq (q63 hF12 fun a13 hF13 => ?_)
    have hd0 : d ≠ 0 := by
      rw [h3]
      by_cases he : e = 0
      · rw [if_pos he]; omega
      · rw [if_neg he]; omega
    have hnb : nb ≤ c11 := by
      have q1 := hS10.here.fro.len
      have q2 := hS12.here.fro.len
      have q3 := brk_us hB0
      omega
    refine wp_seq (ln_loop hCq hd0 (S := S) (B := B) (N := N) hS12.here.fro.2 ⟨u12, _, _, [], false, nb, false, _, _, _, false, hF13, hS12, ?_, by simp [us, lbl]; exact hnb, hu12⟩ fun a14 w14 hE => ?_)
    · rw [Bool.not_not]
      exact h4
    have ht10 : Bk w10 t 78 tok0 := (ht.kp hk2 (by simp)).kp hkp210 (by
      have := ht.lt
      simp only [List.mem_cons, not_or]
      exact ⟨by omega, hft.1⟩)
    have htl := ht.lt
    refine chomp_any hCq hE ht10 (by
      simp only [List.mem_cons, not_or]
      exact ⟨by omega, by omega, by omega, hft.1⟩) fun a15 w15 sv x0 x1 x2 d15 h156 ht15 htx15 hk15 => ?_
    refine hret true a15 w15 d15 h156 (.inl ⟨_, sv, rfl, rfl, ⟨s0, s1, s2, x0, x1, x2, ?_⟩, htx15, ?_⟩)
    · have e9 : (if (!fold) = true then 16 else 32 : Int) = (if fold = true then 32 else 16) := by cases fold <;> rfl
      rw [← e9]
      exact ht15
    · have hk0 : Kp (t :: k.bs p) w w10 := Sc.Kp.trans_new (hk2.mono (by simp)) hkp210 (fun b hb => by
        rcases List.mem_cons.1 hb with rfl | hb
        · exact .inr (by omega)
        · exact .inl (List.mem_cons_of_mem _ hb))
      exact Sc.Kp.trans_new hk0 hk15 (fun b hb => by
        simp only [List.mem_cons] at hb
        rcases hb with rfl | rfl | rfl | rfl | hb
        · exact .inl (by simp)
        · exact .inr (by omega)
        · exact .inr (by omega)
        · exact .inr (by omega)
        · exact .inl (List.mem_cons_of_mem _ hb))
end Go.Proofs.YtocbbekciphjgaaDoor.Bs
/- PaQ2 -/
/- One character of 2 bytes is decoded (yaml_parser_update_buffer, the inner loop's round): the walk. Printed by genPaQ.py. -/
namespace Go.Proofs.YtocbbekciphjgaaDoor.Pa
open Go.RowKit Go.Proofs.YtocbbekciphjgaaDoor.Rdp
set_option linter.unusedVariables false
set_option linter.unusedSimpArgs false
theorem m63 (v : Int) (h0 : 0 ≤ v) (h1 : v < 2147483648) : Go.bits .and .i32 v 63 = v % 64 := bits_mask .i32 31 (by decide) wraps_i32 6 (by decide) v h0 h1
set_option maxHeartbeats 8000000 in
set_option maxRecDepth 100000 in
theorem in2 {k : Kn} {p c u b rl rpos ip : Nat} {eof : Bool} {L0 L RL BL : List Value} {w0 w : World} {a : Act} {K : Act → World → Prop} {Q : Exit → Act → World → Prop} (hI : Inn k p c u b rl rpos ip eof L0 L RL BL w0 w) (hA : ModeA k.T c u b (rl - rpos) ip) (hb : b + (rl - rpos) ≤ 540) (hlt : rpos + 2 ≤ rl)
    (hx : Ok2 (S k.T (ip - (rl - rpos))) (S k.T (ip - (rl - rpos) + 1))) (hnx : nx k.T (ip - (rl - rpos)) = ip - (rl - rpos) + 2) (hsz : a.tmps.size = 690) (hdf : a.defers = []) (h0 : gt a 0 = .pointer (some ⟨p, 0, none⟩)) (h5 : gt a 5 = .int .i64 (b : Nat))
    (hK : ∀ a' w' L' BL', Fr a a' (b + 2) → Inn k p c (u + 1) (b + 2) rl (rpos + 2) ip eof L0 L' RL BL' w0 w' → ModeA k.T c (u + 1) (b + 2) (rl - (rpos + 2)) ip → b + 2 + (rl - (rpos + 2)) ≤ 540 → K a' w') :
    iBody.wp Tryd.prog (Exit.then K Q) a w := by
  have hl := hI.lay
  have hraw0 := hl.raw 0 (by omega)
  have hraw1 := hl.raw 1 (by omega)
  rw [Nat.add_zero, Nat.add_zero] at hraw0
  obtain ⟨x, HX⟩ : ∃ x, Hid (x = S k.T (ip - (rl - rpos))) := ⟨_, rfl⟩
  rw [← HX.out] at hraw0 hx
  obtain ⟨y, HY⟩ : ∃ y, Hid (y = S k.T (ip - (rl - rpos) + 1)) := ⟨_, rfl⟩
  rw [← HY.out] at hraw1 hx
  have rx : 194 ≤ x ∧ x ≤ 223 := by unfold Ok2 at hx; omega
  have ry : 128 ≤ y ∧ y ≤ 191 := by unfold Ok2 at hx; omega
  obtain ⟨t1, t2, t3, t4, t5, t6, t7, t8, t9, t10⟩ := bits_at x (by omega) (by omega)
  rw [show decide (x < 128) = false by simp; omega] at t1
  rw [show decide (192 ≤ x ∧ x < 224) = true by simp; omega] at t2
  rw [show decide (224 ≤ x ∧ x < 240) = false by simp; omega] at t3
  rw [show decide (240 ≤ x ∧ x < 248) = false by simp; omega] at t4
  obtain ⟨sy, qy⟩ : (Go.bits .and .u8 y 192 != 128) = false ∧ Go.bits .and .u8 y 63 = y % 64 := by
    obtain ⟨_, _, _, _, s, _, _, _, _, q⟩ := bits_at y (by omega) (by omega)
    rw [show decide (128 ≤ y ∧ y < 192) = true by simp; omega] at s
    exact ⟨s, q⟩
  obtain ⟨c16, f16⟩ := hl.pb.at 16 hI.at16
  obtain ⟨c18, f18⟩ := hl.pb.at 18 hl.at18
  obtain ⟨c20, f20⟩ := hl.pb.at 20 hl.at20
  obtain ⟨c21, f21⟩ := hl.pb.at 21 hl.at21
  obtain ⟨c22, f22⟩ := hl.pb.at 22 hI.at22
  obtain ⟨c23, f23⟩ := hl.pb.at 23 hl.at23
  obtain ⟨cr0, fr0⟩ := hl.rb.at rpos hraw0
  unfold by8 at cr0
  obtain ⟨cr1, fr1⟩ := hl.rb.at (rpos + 1) hraw1
  unfold by8 at cr1
  have hHI := Lib.hid hI
  have hHA := Lib.hid hA
  have HKK := Lib.hid hK
  have e1 : ((rpos : Int) != (rl : Int)) = true := by rw [bne_iff_ne]; omega
  have e2 : (rpos != rl) = true := by rw [bne_iff_ne]; omega
  have e3 : (rpos : Int) ≤ (rl : Int) := by omega
  have e4 : (rl : Int) ≤ 512 := by have := hl.hrl; omega
  have e5 : (0 : Int) ≤ (rpos : Int) := by omega
  have e6 : (rpos : Int) < (rl : Int) := by omega
  rw [lit690 a hsz hdf, h0, h5]
  have HOX := Lib.hid hx
  obtain ⟨off, HOFF⟩ : ∃ off : Nat, Hid (ip - (rl - rpos) = off) := ⟨_, rfl⟩
  have e11 : (off : Int) ≤ 2147483647 := by have := hI.ok.tlen; have := hl.hip; have := HOFF.out; omega
  rw [HOFF.out] at c23
  have hpq : ¬ p = k.q := hI.ok.pq
  have hqp : ¬ k.q = p := Ne.symm hI.ok.pq
  obtain ⟨yq0, hyq0⟩ := hl.qall (b) (by omega)
  have cq0 : w.cell? ⟨k.q, b, none⟩ = some (by8 yq0) := ((hl.qb.cell (b)).1).trans hyq0
  have fq0 : w.frozen? ⟨k.q, b, none⟩ = false := (hl.qb.cell (b)).2
  obtain ⟨yq1, hyq1⟩ := hl.qall (b + 1) (by omega)
  have cq1 : w.cell? ⟨k.q, b + 1, none⟩ = some (by8 yq1) := ((hl.qb.cell (b + 1)).1).trans hyq1
  have fq1 : w.frozen? ⟨k.q, b + 1, none⟩ = false := (hl.qb.cell (b + 1)).2
  have e7 : (b : Int) < 1536 := by omega
  have e8 : (0 : Int) ≤ (b : Int) := by omega
  have e9 : (rpos : Int) + 2 ≤ 512 := by omega
  have e10 : (u : Int) ≤ 1000 := by have := hA.at1; have := hA.at2; have := adv_ge k.T c u; omega
  clear hI hA hK hl hraw0 hraw1 hx hyq0 hyq1
  have w0 : ¬ ((rl : Int) - (rpos : Int) < 2) := by omega
  have w1 : decide ((rl : Int) - (rpos : Int) < 2) = false := decide_eq_false w0
  conv => arg 2; whnf
  go_wp2_with fail
  go_quiet (fail)
  go_wp2_with fail
  go_quiet (fail)
  go_wp2_with fail
  go_quiet (fail)
  go_wp2_with fail
  refine wp_loop_rounds 2 ?_
  rw [rounds_succ]
  go_wp2_with fail
  go_quiet (fail)
  go_wp2_with fail
  obtain ⟨v, HV⟩ : ∃ v, Hid (x % 32 * 64 + y % 64 = v) := ⟨_, rfl⟩
  rw [HV.out]
  have hv : 128 ≤ v ∧ v ≤ 2047 ∧ (v = 133 ∨ 160 ≤ v) := by
    have h1 := HV.out
    have h2 := HOX.out
    unfold Ok2 at h2
    omega
  have d1 : decide (128 ≤ v) = true := by simp; omega
  have d2 : decide (2048 ≤ v) = false := by simp; omega
  have d3 : decide (65536 ≤ v) = false := by simp; omega
  have d5 : decide (1114111 < v) = false := by simp; omega
  have d7 : decide (32 ≤ v) = true := by simp; omega
  have d8 : decide (v ≤ 126) = false := by simp; omega
  have d16 : decide (v ≤ 127) = false := by simp; omega
  have d17 : decide (v ≤ 2047) = true := by simp; omega
  have d18 : decide (v ≤ 65535) = true := by simp; omega
  have q9 : (v == 9) = false := by simp; omega
  have q10 : (v == 10) = false := by simp; omega
  have q13 : (v == 13) = false := by simp; omega
  rw [rounds_succ]
  have hx1 := HV.out
  clear hx1
  have hw : (v = 133) ∨ (160 ≤ v) := by omega
  rcases hw with hw | hw
  · have g133 : (v == 133) = true := by simp; omega
    have g55 : decide (55296 ≤ v) = false := by simp; omega
    clear hv hw
    go_wp2_with fail
    have E0 : wrap32 (192 + v / 64) % 256 = x := by rw [IntWalk.wrap32_in _ (by have := HV.out; omega)]; have := HV.out; omega
    have E1 : wrap32 (128 + Go.bits .and .i32 v 63) % 256 = y := by rw [m63 v (by have := HV.out; omega) (by have := HV.out; omega)]; rw [IntWalk.wrap32_in _ (by have := HV.out; omega)]; have := HV.out; omega
    rw [E0, E1]
    have hfin := fun N => (hHI.out.drewN N).eat2 hHA.out (by omega) hnx hb (v18 := (u : Int) + 1) (v21 := (rpos : Int) + 2) (v23 := (off : Int) + 2) (x0 := x) (x1 := y) (by omega) (by omega) (by have := HOFF.out; omega) HX.out HY.out
    exact HKK.out _ _ _ _ ⟨rfl, rfl, by rw [h0]; rfl, rfl, rfl, rfl⟩ (hfin _).1 (hfin 0).2.1 (hfin 0).2.2
  · have g133 : (v == 133) = false := by simp; omega
    have g0 : decide (55296 ≤ v) = false := by simp; omega
    have g1 : decide (160 ≤ v) = true := by simp; omega
    have g2 : decide (v ≤ 55295) = true := by simp; omega
    clear hv hw
    go_wp2_with fail
    have E0 : wrap32 (192 + v / 64) % 256 = x := by rw [IntWalk.wrap32_in _ (by have := HV.out; omega)]; have := HV.out; omega
    have E1 : wrap32 (128 + Go.bits .and .i32 v 63) % 256 = y := by rw [m63 v (by have := HV.out; omega) (by have := HV.out; omega)]; rw [IntWalk.wrap32_in _ (by have := HV.out; omega)]; have := HV.out; omega
    rw [E0, E1]
    have hfin := fun N => (hHI.out.drewN N).eat2 hHA.out (by omega) hnx hb (v18 := (u : Int) + 1) (v21 := (rpos : Int) + 2) (v23 := (off : Int) + 2) (x0 := x) (x1 := y) (by omega) (by omega) (by have := HOFF.out; omega) HX.out HY.out
    exact HKK.out _ _ _ _ ⟨rfl, rfl, by rw [h0]; rfl, rfl, rfl, rfl⟩ (hfin _).1 (hfin 0).2.1 (hfin 0).2.2
end Go.Proofs.YtocbbekciphjgaaDoor.Pa
