/- QiF, QiG: parts of the proof, one behind another. -/
import Derived.Test.YtocbbekciphjgaaDoorMh7
import Derived.Test.YtocbbekciphjgaaDoorMh9
/- QiF -/
/- The lines of a block scalar (yaml_parser_scan_block_scalar): what they come to. Printed by genQi.py. -/
namespace Go.Proofs.YtocbbekciphjgaaDoor.Bs
open Go.RowKit Go.Proofs.YtocbbekciphjgaaDoor.Rdp Go.Proofs.YtocbbekciphjgaaDoor.Pa Go.Proofs.YtocbbekciphjgaaDoor.Sc Go.Proofs.YtocbbekciphjgaaDoor.Qd
set_option linter.unusedVariables false
set_option linter.unusedSimpArgs false
theorem isBrz_of {x : Int} {r : List Int} (hx : Ch x) (h : x ≠ 10) : isBrz (fb (x :: r)) = false := by
  by_cases hl : x < 128
  · rw [fb_small hl]
    have := hx.range
    exact isBrz_no h (by omega)
  · have := fb_great (r := r) hx (by omega)
    exact isBrz_no (by omega) (by omega)
def lbl (b : Bool) : List Int := if b then [10] else []
theorem us_nls (n : Nat) : us (nls n) = nls n := by
  unfold nls
  induction n with
  | zero => rfl
  | succ n ih =>
    show u8 10 ++ us (List.replicate n 10) = 10 :: List.replicate n 10
    rw [ih, u8_1 (by omega)]
    rfl
theorem us_lbl (b : Bool) : us (lbl b) = lbl b := by cases b <;> rfl
theorem us_cons (x : Int) (l : List Int) : us (x :: l) = u8 x ++ us l := rfl
theorem blank_wht {x : Int} {r : List Int} (h : Ch x) : isBlank (fb (x :: r)) = wht x := by
  by_cases hl : x < 128
  · rw [fb_small hl]; rfl
  · have := fb_great (r := r) h (by omega)
    unfold isBlank wht
    rw [nb (by omega), nb (by omega), nb (by omega), nb (by omega)]
/-- A line is read. -/
theorem rd_round {k : Kn} {p t mk lo ib bb eb : Nat} {s0 s1 s2 : Int} {L0 : List Value} {pn : Int} {w1 : World} (hC : Cq k p mk lo ib bb eb s0 s1 s2 L0 pn w1) {li : Bool} {ch : Int} {c u col d tb : Nat} {sv lbv tbv v15 v16 : Value} {a : Act} {w : World} {K : Act → World → Prop} {Q : Exit → Act → World → Prop} (hF : Fq p t mk li ch eb ib bb sv lbv v15 v16 a) {row r : List Int} {s lb : List Int} (hS : Sq k p lo ib bb eb L0 w1 c u col (row ++ 10 :: r) d s lb tb sv lbv tbv w) (hu : 1 ≤ u) (hrow : ∀ y ∈ row, y ≠ 10)
    (hK : ∀ a' w' c' u' col' x row' v', row = x :: row' → c < c' → c' ≤ k.T.length → 1 ≤ u' → Fq p t mk li ch eb ib bb v' lbv v15 v16 a' → Sq k p lo ib bb eb L0 w1 c' u' col' (row' ++ 10 :: r) d (s ++ u8 x) lb tb v' lbv tbv w' → K a' w')
    (hX : ∀ a' w', row = [] → Fq p t mk li ch eb ib bb sv lbv v15 v16 a' → Sq k p lo ib bb eb L0 w1 c u col (10 :: r) d s lb tb sv lbv tbv w' → Q (.exit 6) a' w') :
    gRd.wp Tryd.prog (Exit.then K Q) a w := by
  rw [gRd_eq]
  refine wp_seq (wp_seq (q74 hC hF hS hu fun a1 w2 hF1 hS1 e412 => ?_))
  cases row with
  | nil =>
    refine wp_cond_split (t := false) (show a1.tmps.getD 412 undef = _ from e412) (fun h => by cases h) (fun _ => wp_exit ?_)
    exact hX a1 w2 rfl hF1 hS1
  | cons x row =>
    have hb : isBrz (fb (x :: row ++ 10 :: r)) = false := isBrz_of (hS1.here.ch x (by simp)) (hrow x (by simp))
    rw [hb] at e412
    refine wp_cond_split (t := true) (show a1.tmps.getD 412 undef = _ from e412) (fun _ => wp_skip ?_) (fun h => by cases h)
    obtain ⟨u0, rfl⟩ : ∃ u0, u = u0 + 1 := ⟨u - 1, by omega⟩
    refine wp_block ?_
    rw [then_block]
    refine wp_seq (q75 hC hF1 (r := row ++ 10 :: r) hS1 fun a2 w3 v3 hF2 hS2 => ?_)
    have hpos := u8_pos x
    refine q76 hC hF2 hS2 fun a3 w4 u4 hF3 hS3 hR3 hu3 => ?_
    exact hK a3 w4 _ _ _ x row v3 rfl (by omega) hS3.here.fro.2 hu3 hF3 hS3
theorem rd_loop {k : Kn} {p t mk lo ib bb eb : Nat} {s0 s1 s2 : Int} {L0 : List Value} {pn : Int} {w1 : World} (hC : Cq k p mk lo ib bb eb s0 s1 s2 L0 pn w1) {li : Bool} {ch : Int} {c u col d tb : Nat} {sv lbv tbv v15 v16 : Value} {a : Act} {w : World} {K : Act → World → Prop} {Q : Exit → Act → World → Prop} (hF : Fq p t mk li ch eb ib bb sv lbv v15 v16 a) {row r : List Int} {s lb : List Int} (hS : Sq k p lo ib bb eb L0 w1 c u col (row ++ 10 :: r) d s lb tb sv lbv tbv w) (hu : 1 ≤ u) (hrow : ∀ y ∈ row, y ≠ 10)
    (hX : ∀ a' w' c' u' col' v', c ≤ c' → 1 ≤ u' → Fq p t mk li ch eb ib bb v' lbv v15 v16 a' → Sq k p lo ib bb eb L0 w1 c' u' col' (10 :: r) d (s ++ us row) lb tb v' lbv tbv w' → K a' w') :
    (Code.block 6 (Code.loop gRd)).wp Tryd.prog (Exit.then K Q) a w := by
  refine wp_block ?_
  refine wp_loop_ghost_k (fun g a2 w2 => ∃ c2 u2 col2 row2 s2 v2, g = k.T.length - c2 ∧ c ≤ c2 ∧ c2 ≤ k.T.length ∧ 1 ≤ u2 ∧ Fq p t mk li ch eb ib bb v2 lbv v15 v16 a2 ∧ Sq k p lo ib bb eb L0 w1 c2 u2 col2 (row2 ++ 10 :: r) d s2 lb tb v2 lbv tbv w2 ∧ (∀ y ∈ row2, y ≠ 10) ∧ s2 ++ us row2 = s ++ us row) (k.T.length - c) ⟨c, u, col, row, s, sv, rfl, Nat.le_refl _, hS.here.fro.2, hu, hF, hS, hrow, rfl⟩ ?_
  rintro g a2 w2 ⟨c2, u2, col2, row2, s2, v2, rfl, hc2, hcl2, hu2, hF2, hS2, h2, he2⟩ J K2 hJ hK2
  refine rd_round hC hF2 hS2 hu2 h2 ?_ ?_
  · intro a3 w3 c3 u3 col3 x row3 v3 hx hlt hcl3 hu3 hF3 hS3
    subst hx
    exact hK2 _ _ (Handed.intro (k.T.length - c3) (by omega) (hJ _ _ _ ⟨c3, u3, col3, row3, _, v3, rfl, by omega, hcl3, hu3, hF3, hS3, fun y hy => h2 y (by simp [hy]), by rw [← he2, us_cons, List.append_assoc]⟩))
  · intro a3 w3 hx hF3 hS3
    subst hx
    have : s2 = s ++ us row := by rw [← he2]; simp [us]
    rw [this] at hS3
    exact hX a3 w3 c2 u2 col2 v2 hc2 hu2 hF3 hS3
/-- At the head of the loop over the lines. -/
def Lq (k : Kn) (p t mk lo ib bb eb : Nat) (L0 : List Value) (w1 : World) (li : Bool) (ch : Int) (d : Nat) (S : List Int) (B : Bool) (N c : Nat) (a : Act) (w : World) : Prop :=
  ∃ u col rest out lbr tb bl sv lbv tbv v16, Fq p t mk li ch eb ib bb sv lbv (.bool bl) (.bool v16) a ∧ Sq k p lo ib bb eb L0 w1 c u col rest d (us out) (lbl lbr) tb sv lbv tbv w ∧ Cnt d (!li) out lbr tb bl col rest S B N ∧ (us out).length + (lbl lbr).length + tb ≤ c ∧ 1 ≤ u
/-- Behind the lines. -/
def Eq' (k : Kn) (p t mk lo ib bb eb : Nat) (L0 : List Value) (w1 : World) (li : Bool) (ch : Int) (d : Nat) (S : List Int) (B : Bool) (N : Nat) (a : Act) (w : World) : Prop :=
  ∃ c u col rest sv lbv tbv v15 v16, Fq p t mk li ch eb ib bb sv lbv v15 v16 a ∧ Sq k p lo ib bb eb L0 w1 c u col rest d (us S) (lbl B) N sv lbv tbv w ∧ (us S).length + (lbl B).length + N ≤ c
/-- A line, and what stands behind it. -/
theorem line_any {k : Kn} {p t mk lo ib bb eb : Nat} {s0 s1 s2 : Int} {L0 : List Value} {pn : Int} {w1 : World} (hC : Cq k p mk lo ib bb eb s0 s1 s2 L0 pn w1) {li : Bool} {ch : Int} {c u col d tb : Nat} {sv lbv tbv : Value} {a : Act} {w : World} {K : Act → World → Prop} {Q : Exit → Act → World → Prop} {x : Int} {row r q out : List Int} {lbr bl tk : Bool} {n m k' : Nat} (hF : Fq p t mk li ch eb ib bb sv lbv (.bool bl) (.bool tk) a) (hS : Sq k p lo ib bb eb L0 w1 c u col (x :: row ++ 10 :: r) d (us out) (lbl lbr) tb sv lbv tbv w) (hu : 1 ≤ u) (hrow : ∀ y ∈ x :: row, y ≠ 10) (hB : Brk d 0 0 r n m k' q) (hd : d ≠ 0) (hz : (us out).length + (lbl lbr).length + tb ≤ c)
    (hK : ∀ a' w' c' u' v12 v13 v14 tk', c < c' → c' ≤ k.T.length → 1 ≤ u' → Fq p t mk li ch eb ib bb v12 v13 (.bool (wht x)) (.bool tk') a' → Sq k p lo ib bb eb L0 w1 c' u' k' q d (us (out ++ joint (!li) bl (wht x) lbr tb ++ x :: row)) [10] n v12 v13 v14 w' → (us (out ++ joint (!li) bl (wht x) lbr tb ++ x :: row)).length + 1 + n ≤ c' → K a' w') :
    gLb.wp Tryd.prog (Exit.then K Q) a w := by
  have hfro := hS.here.fro.len
  rw [gLb_eq]
  refine wp_seq (q65 hC hF hS hu fun a1 w2 hF1 hS1 => ?_)
  have hx := hS1.here.ch x (by simp)
  rw [show isBlank (fb (x :: row ++ 10 :: r)) = wht x from blank_wht hx] at hF1
  -- behind what joins the lines
  have go : ∀ a3 w3 sv3 jn, Fq p t mk li ch eb ib bb sv3 lbv (.bool bl) (.bool (wht x)) a3 → Sq k p lo ib bb eb L0 w1 c u col (x :: row ++ 10 :: r) d (us (out ++ jn)) (lbl lbr) tb sv3 lbv tbv w3 → jn.length ≤ (lbl lbr).length → us jn = jn → joint (!li) bl (wht x) lbr tb = jn ++ nls tb →
      (Code.seq g70 (.seq g71 (.seq g72 (.seq g73 (.seq (.block 6 (.loop gRd)) (.seq gU78 (.seq g80 g81))))))).wp Tryd.prog (Exit.then K Q) a3 w3 := by
    intro a3 w3 sv3 jn hF3 hS3 hjl hju hj
    have hul : (us (out ++ jn)).length = (us out).length + jn.length := by rw [us_app, hju, List.length_append]
    refine wp_seq (q70 hC hF3 hS3 fun a4 v4 hF4 hS4 => ?_)
    refine wp_seq (q71 hC hF4 hS4 (by simp only [List.length_nil]; omega) fun a5 w5 v5 hF5 hS5 => ?_)
    have e1 : us (out ++ jn) ++ nls tb = us (out ++ joint (!li) bl (wht x) lbr tb) := by
      rw [hj, ← List.append_assoc, us_app (out ++ jn), us_nls]
    rw [e1] at hS5
    have hjlen : (us (out ++ joint (!li) bl (wht x) lbr tb)).length = (us out).length + jn.length + tb := by
      rw [← e1, List.length_append, hul, nls_len]
    refine wp_seq (q72 hC hF5 hS5 fun a6 w6 v6 hF6 hS6 => ?_)
    refine wp_seq (q73 hC hF6 hS6 hu fun a7 w7 hF7 hS7 => ?_)
    rw [show isBlank (fb (x :: row ++ 10 :: r)) = wht x from blank_wht hx] at hF7
    refine wp_seq (rd_loop hC hF7 (row := x :: row) (r := r) hS7 hu hrow fun a8 w8 c8 u8' col8 v8 hc8 hu8 hF8 hS8 => ?_)
    rw [← us_app] at hS8
    refine wp_seq (q78 hC hF8 hS8 fun a9 w9 u9 hF9 hS9 hR9 hu9 => ?_)
    obtain ⟨u10, rfl⟩ : ∃ u10, u9 = u10 + 1 := ⟨u9 - 1, by omega⟩
    refine wp_seq (q80 hC hF9 hS9 fun a10 w10 v10 hF10 hS10 => ?_)
    refine q81 hC hF10 hS10 hB fun a11 w11 c11 u11 v11 hc11 hu11 hF11 hS11 => ?_
    rw [show ind d m pn = d by unfold ind; rw [if_neg hd], Nat.zero_add] at hS11
    have h11 := hS11.here.fro.len
    have hbu := brk_us hB
    have e2 : (us (x :: row ++ 10 :: r)).length = (us (x :: row)).length + 1 + (us r).length := by
      rw [us_app, List.length_append]
      show _ + (u8 10 ++ us r).length = _
      rw [u8_1 (by omega)]
      simp only [List.length_append, List.length_cons, List.length_nil]
      omega
    refine hK a11 w11 c11 u11 _ _ _ _ (by omega) hS11.here.fro.2 hu11 hF11 hS11 ?_
    rw [us_app, List.length_append, hjlen]
    omega
  have hl66 : ∀ b, (Fq p t mk li ch eb ib bb sv lbv (.bool bl) (.bool (wht x)) a1) → b = (((!li && !bl) && !(wht x)) && lbr) → (∀ a3, Fq p t mk li ch eb ib bb sv lbv (.bool bl) (.bool (wht x)) a3 → gt a3 377 = .bool b → (Code.cond (.tmp 377) (.seq g67 (.cond (.tmp 380) g68 .skip)) g69).wp Tryd.prog (Exit.then (fun a w => (Code.seq g70 (.seq g71 (.seq g72 (.seq g73 (.seq (.block 6 (.loop gRd)) (.seq gU78 (.seq g80 g81))))))).wp Tryd.prog (Exit.then K Q) a w) (Exit.then K Q)) a3 w2) → g66.wp Tryd.prog (Exit.then (fun a w => (Code.cond (.tmp 377) (.seq g67 (.cond (.tmp 380) g68 .skip)) g69).wp Tryd.prog (Exit.then (fun a w => (Code.seq g70 (.seq g71 (.seq g72 (.seq g73 (.seq (.block 6 (.loop gRd)) (.seq gU78 (.seq g80 g81))))))).wp Tryd.prog (Exit.then K Q) a w) (Exit.then K Q)) a w) (Exit.then (fun a w => (Code.seq g70 (.seq g71 (.seq g72 (.seq g73 (.seq (.block 6 (.loop gRd)) (.seq gU78 (.seq g80 g81))))))).wp Tryd.prog (Exit.then K Q) a w) (Exit.then K Q))) a1 w2 := by
    intro b hF2 hb hgo
    cases lbr with
    | false =>
      refine q66n hC hF2 hS1 fun a3 hF3 e => ?_
      rw [Bool.and_false] at hb
      subst hb
      exact hgo a3 hF3 e
    | true =>
      refine q66y hC hF2 hS1 fun a3 hF3 e => ?_
      rw [Bool.and_true] at hb
      subst hb
      exact hgo a3 hF3 e
  refine wp_seq (wp_seq (hl66 _ hF1 rfl fun a3 hF3 e377 => ?_))
  cases hb : (((!li && !bl) && !(wht x)) && lbr) with
  | false =>
    rw [hb] at e377
    refine wp_cond_split (t := false) (show a3.tmps.getD 377 undef = _ from e377) (fun h => by cases h) (fun _ => ?_)
    refine q69 hC hF3 hS1 (by omega) fun a4 w4 v4 hF4 hS4 => ?_
    rw [show us out ++ lbl lbr = us (out ++ lbl lbr) by rw [us_app, us_lbl]] at hS4
    exact go a4 w4 v4 _ hF4 hS4 (Nat.le_refl _) (us_lbl _) (by unfold joint; rw [hb]; rfl)
  | true =>
    rw [hb] at e377
    have hlb : lbr = true := by revert hb; cases lbr <;> simp
    subst hlb
    refine wp_cond_split (t := true) (show a3.tmps.getD 377 undef = _ from e377) (fun _ => ?_) (fun h => by cases h)
    refine wp_seq (q67 hC hF3 hS1 fun a4 hF4 e380 => ?_)
    by_cases h0 : tb = 0
    · rw [show (tb == 0) = true by simpa using h0] at e380
      refine wp_cond_split (t := true) (show a4.tmps.getD 380 undef = _ from e380) (fun _ => ?_) (fun h => by cases h)
      refine q68 hC hF4 hS1 (by have : (lbl true).length = 1 := rfl; omega) fun a5 w5 v5 hF5 hS5 => ?_
      rw [show us out ++ [32] = us (out ++ [32]) from (us_snoc (by omega)).symm] at hS5
      exact go a5 w5 v5 _ hF5 hS5 (Nat.le_refl _) rfl (by unfold joint; rw [hb]; simp [h0])
    · rw [show (tb == 0) = false by simpa using h0] at e380
      refine wp_cond_split (t := false) (show a4.tmps.getD 380 undef = _ from e380) (fun h => by cases h) (fun _ => wp_skip ?_)
      rw [show us out = us (out ++ []) by rw [List.append_nil]] at hS1
      exact go a4 w2 sv [] hF4 hS1 (by simp) rfl (by unfold joint; rw [hb]; simp [h0])
theorem ln_round {k : Kn} {p t mk lo ib bb eb : Nat} {s0 s1 s2 : Int} {L0 : List Value} {pn : Int} {w1 : World} (hC : Cq k p mk lo ib bb eb s0 s1 s2 L0 pn w1) {li : Bool} {ch : Int} {c d : Nat} {a : Act} {w : World} {K : Act → World → Prop} {Q : Exit → Act → World → Prop} {S : List Int} {B : Bool} {N : Nat} (hd : d ≠ 0) (h : Lq k p t mk lo ib bb eb L0 w1 li ch d S B N c a w)
    (hK : ∀ a' w' c', c < c' → c' ≤ k.T.length → Lq k p t mk lo ib bb eb L0 w1 li ch d S B N c' a' w' → K a' w')
    (hX : ∀ a' w', Eq' k p t mk lo ib bb eb L0 w1 li ch d S B N a' w' → Q (.exit 4) a' w') :
    gL.wp Tryd.prog (Exit.then K Q) a w := by
  obtain ⟨u, col, rest, out, lbr, tb, bl, sv, lbv, tbv, v16, hF, hS, hC1, hz, hu⟩ := h
  rw [gL_eq]
  refine wp_seq (wp_seq (q64 hC hF hS hu fun a1 w2 hF1 hS1 e347 => ?_))
  cases hC1 with
  | stop h1 =>
    have e0 : ((col == d) && !(fb rest == 0)) = false := by
      rcases h1 with h1 | h1
      · rw [show (col == d) = false by simpa using h1]; rfl
      · subst h1
        show (_ && !((0 : Int) == 0)) = false
        simp
    rw [e0] at e347
    refine wp_cond_split (t := false) (show a1.tmps.getD 347 undef = _ from e347) (fun h => by cases h) (fun _ => wp_exit ?_)
    exact hX a1 w2 ⟨c, u, col, rest, sv, lbv, tbv, _, _, hF1, hS1, hz⟩
  | line h1 h2 h3 =>
    rename_i row r q n m k' x
    have hx := hS1.here.ch x (by simp)
    have e0 : ((d == d) && !(fb (x :: row ++ 10 :: r) == 0)) = true := by
      have := hx.range
      have hv : fb (x :: row ++ 10 :: r) ≠ 0 := by
        by_cases hl : x < 128
        · rw [show fb (x :: row ++ 10 :: r) = x from fb_small hl]; omega
        · have := fb_great (r := row ++ 10 :: r) hx (by omega)
          show fb (x :: (row ++ 10 :: r)) ≠ 0
          omega
      rw [nb hv]
      simp
    rw [e0] at e347
    refine wp_cond_split (t := true) (show a1.tmps.getD 347 undef = _ from e347) (fun _ => wp_skip ?_) (fun h => by cases h)
    refine wp_block ?_
    rw [then_block]
    refine line_any hC hF1 hS1 hu h1 h2 hd hz fun a3 w3 c3 u3 v12 v13 v14 tk hlt hcl hu3 hF3 hS3 hz3 => ?_
    exact hK a3 w3 c3 hlt hcl ⟨u3, k', q, _, true, n, _, v12, v13, v14, tk, hF3, hS3, h3, hz3, hu3⟩
theorem ln_loop {k : Kn} {p t mk lo ib bb eb : Nat} {s0 s1 s2 : Int} {L0 : List Value} {pn : Int} {w1 : World} (hC : Cq k p mk lo ib bb eb s0 s1 s2 L0 pn w1) {li : Bool} {ch : Int} {c d : Nat} {a : Act} {w : World} {K : Act → World → Prop} {Q : Exit → Act → World → Prop} {S : List Int} {B : Bool} {N : Nat} (hd : d ≠ 0) (hcl : c ≤ k.T.length) (h : Lq k p t mk lo ib bb eb L0 w1 li ch d S B N c a w)
    (hX : ∀ a' w', Eq' k p t mk lo ib bb eb L0 w1 li ch d S B N a' w' → K a' w') :
    (Code.block 4 (Code.loop gL)).wp Tryd.prog (Exit.then K Q) a w := by
  refine wp_block ?_
  refine wp_loop_ghost_k (fun g a2 w2 => ∃ c2, g = k.T.length - c2 ∧ c2 ≤ k.T.length ∧ Lq k p t mk lo ib bb eb L0 w1 li ch d S B N c2 a2 w2) (k.T.length - c) ⟨c, rfl, hcl, h⟩ ?_
  rintro g a2 w2 ⟨c2, rfl, hcl2, h2⟩ J K2 hJ hK2
  refine ln_round hC hd h2 ?_ ?_
  · intro a3 w3 c3 hlt hcl3 h3
    exact hK2 _ _ (Handed.intro (k.T.length - c3) (by omega) (hJ _ _ _ ⟨c3, rfl, hcl3, h3⟩))
  · intro a3 w3 h3
    exact hX a3 w3 h3
end Go.Proofs.YtocbbekciphjgaaDoor.Bs
/- QiG -/
/- A block scalar is scanned (yaml_parser_scan_block_scalar): its head, the walks. Printed by genQi.py. -/
namespace Go.Proofs.YtocbbekciphjgaaDoor.Bs
open Go.RowKit Go.Proofs.YtocbbekciphjgaaDoor.Rdp Go.Proofs.YtocbbekciphjgaaDoor.Pa Go.Proofs.YtocbbekciphjgaaDoor.Sc Go.Proofs.YtocbbekciphjgaaDoor.Qd
set_option linter.unusedVariables false
set_option linter.unusedSimpArgs false
set_option maxHeartbeats 32000000 in
set_option maxRecDepth 100000 in
theorem r0t {p t : Nat} {li : Bool} {a : Act} {w : World} {K : Act → World → Prop} {Q : Exit → Act → World → Prop} (hz : a.tmps.size = 464) (hdf : a.defers = []) (h0 : gt a 0 = .pointer (some ⟨p, 0, none⟩)) (h1 : gt a 1 = .pointer (some ⟨t, 0, none⟩)) (h2 : gt a 2 = .bool li)
    (hK : ∀ a', a'.tmps.size = 464 → a'.defers = [] → gt a' 0 = .pointer (some ⟨p, 0, none⟩) → gt a' 1 = .pointer (some ⟨t, 0, none⟩) → gt a' 2 = .bool li → K a' w) :
    g0.wp Tryd.prog (Exit.then K Q) a w := by
  have HKK := Lib.hid hK
  rw [lit464 a hz hdf, h0, h1, h2]
  clear hK h0 h1 h2 hz hdf
  conv => arg 2; whnf
  go_wp2_with fail
  exact HKK.out _ rfl rfl rfl rfl rfl
set_option maxHeartbeats 32000000 in
set_option maxRecDepth 100000 in
theorem r1t {k : Kn} {L0 : List Value} {p t : Nat} {li : Bool} {a : Act} {w : World} {K : Act → World → Prop} {Q : Exit → Act → World → Prop} (hz : a.tmps.size = 464) (hdf : a.defers = []) (h0 : gt a 0 = .pointer (some ⟨p, 0, none⟩)) (h1 : gt a 1 = .pointer (some ⟨t, 0, none⟩)) (h2 : gt a 2 = .bool li) {c u col : Nat} {rest : List Int} (hA : At k p L0 c u col rest w)
    (hK : ∀ a' w' (e0 e1 e2 : Int), a'.tmps.size = 464 → a'.defers = [] → gt a' 0 = .pointer (some ⟨p, 0, none⟩) → gt a' 1 = .pointer (some ⟨t, 0, none⟩) → gt a' 2 = .bool li → gt a' 7 = .pointer (some ⟨w.heap.size, 0, none⟩) → Bk w' w.heap.size 74 [.int .i64 e0, .int .i64 e1, .int .i64 e2] → Below w.heap.size w w' → w'.heap.size = w.heap.size + 1 → K a' w') :
    g1.wp Tryd.prog (Exit.then K Q) a w := by
  obtain ⟨bp, bl, mi, ml, z, L, q1, h24, h25, h26, h19, m1, m2, m3, ho⟩ := hA.ex
  obtain ⟨c24, f24⟩ := at_ q1.pb 24 h24
  obtain ⟨c25, f25⟩ := at_ q1.pb 25 h25
  obtain ⟨c26, f26⟩ := at_ q1.pb 26 h26
  have HKK := Lib.hid hK
  rw [lit464 a hz hdf, h0, h1, h2]
  clear hK h0 h1 h2 hz hdf q1 h24 h25 h26 h19 ho hA
  conv => arg 2; whnf
  go_wp2_with fail
  exact HKK.out _ _ _ _ _ rfl rfl rfl rfl rfl rfl (Bk.new w [.int .i64 (mi : Nat), .int .i64 (ml : Nat), .int .i64 (col : Nat)] 74) (below_alloc _ _) (by simp)
set_option maxHeartbeats 32000000 in
set_option maxRecDepth 100000 in
theorem r2t {k : Kn} {L0 : List Value} {p t mk c u col : Nat} {li : Bool} {a : Act} {w : World} {K : Act → World → Prop} {Q : Exit → Act → World → Prop} (hz : a.tmps.size = 464) (hdf : a.defers = []) (h0 : gt a 0 = .pointer (some ⟨p, 0, none⟩)) (h1 : gt a 1 = .pointer (some ⟨t, 0, none⟩)) (h2 : gt a 2 = .bool li) (h7 : gt a 7 = .pointer (some ⟨mk, 0, none⟩)) {x : Int} {r : List Int} (hA : At k p L0 c (u + 1) col (x :: r) w)
    (hK : ∀ a' w', a'.tmps.size = 464 → a'.defers = [] → gt a' 0 = .pointer (some ⟨p, 0, none⟩) → gt a' 1 = .pointer (some ⟨t, 0, none⟩) → gt a' 2 = .bool li → gt a' 7 = .pointer (some ⟨mk, 0, none⟩) → At k p L0 (c + (u8 x).length) u (col + 1) r w' → Kp (k.bs p) w w' → K a' w') :
    g2.wp Tryd.prog (Exit.then K Q) a w := by
  have hsk := Lib.hid hA.skip
  have HKK := Lib.hid hK
  rw [lit464 a hz hdf, h0, h1, h2, h7]
  clear hK h0 h1 h2 hz hdf hA h7
  conv => arg 2; whnf
  go_wp2_with fail
  refine hsk.out.mono ?_
  rintro e w' ⟨rfl, hat, hkp, hsz⟩
  have HAT := Lib.hid hat
  have HKP := Lib.hid hkp
  clear hat hkp hsz hsk
  go_wp2_with fail
  exact HKK.out _ _ rfl rfl rfl rfl rfl rfl HAT.out HKP.out
set_option maxHeartbeats 32000000 in
set_option maxRecDepth 100000 in
theorem r3t {k : Kn} {L0 : List Value} {p t mk c u col : Nat} {li : Bool} {a : Act} {w : World} {K : Act → World → Prop} {Q : Exit → Act → World → Prop} (hz : a.tmps.size = 464) (hdf : a.defers = []) (h0 : gt a 0 = .pointer (some ⟨p, 0, none⟩)) (h1 : gt a 1 = .pointer (some ⟨t, 0, none⟩)) (h2 : gt a 2 = .bool li) (h7 : gt a 7 = .pointer (some ⟨mk, 0, none⟩)) {rest : List Int} (hr : RoundOk k p) (hA : At k p L0 c u col rest w) (hg : 2 < w.heap.size)
    (hK : ∀ a' w' u', a'.tmps.size = 464 → a'.defers = [] → gt a' 0 = .pointer (some ⟨p, 0, none⟩) → gt a' 1 = .pointer (some ⟨t, 0, none⟩) → gt a' 2 = .bool li → gt a' 7 = .pointer (some ⟨mk, 0, none⟩) → At k p L0 c u' col rest w' → Kp (k.bs p) w w' → 1 ≤ u' → K a' w') :
    gU3.wp Tryd.prog (Exit.then K Q) a w := by
  have hub := Lib.hid (hA.ub hr 1 (by omega) (by omega) hg)
  have HA := Lib.hid hA
  obtain ⟨bp, bl, mi, ml, z, L, q1, h24, h25, h26, h19, m1, m2, m3, ho⟩ := hA.ex
  obtain ⟨c18, f18⟩ := at_ q1.pb 18 q1.at18
  have HKK := Lib.hid hK
  by_cases hlt : u < 1
  · have e1 : decide ((u : Int) < 1) = true := by simp; omega
    have e2 : (u : Int) < 1 := by omega
    rw [lit464 a hz hdf, h0, h1, h2, h7]
    clear hK h0 h1 h2 hz hdf q1 h24 h25 h26 h19 ho hA h7
    conv => arg 2; whnf
    go_wp2_with fail
    refine hub.out.mono ?_
    rintro e w' ⟨rfl, ⟨u', hr', hu', hat⟩, hkp, hsz⟩
    have HAT := Lib.hid hat
    have HKP := Lib.hid hkp
    clear hat hkp hsz hub hr' c18 f18
    go_wp2_with fail
    exact HKK.out _ _ u' rfl rfl rfl rfl rfl rfl HAT.out HKP.out hu'
  · have e1 : decide ((u : Int) < 1) = false := by simp; omega
    have e2 : ¬ ((u : Int) < 1) := by omega
    rw [lit464 a hz hdf, h0, h1, h2, h7]
    clear hK h0 h1 h2 hz hdf q1 h24 h25 h26 h19 ho hA h7 hub
    conv => arg 2; whnf
    go_wp2_with fail
    exact HKK.out _ _ u rfl rfl rfl rfl rfl rfl HA.out (Kp.refl _ _) (by omega)
set_option maxHeartbeats 32000000 in
set_option maxRecDepth 100000 in
theorem r5t {p t mk : Nat} {li : Bool} {a : Act} {w : World} {K : Act → World → Prop} {Q : Exit → Act → World → Prop} (hz : a.tmps.size = 464) (hdf : a.defers = []) (h0 : gt a 0 = .pointer (some ⟨p, 0, none⟩)) (h1 : gt a 1 = .pointer (some ⟨t, 0, none⟩)) (h2 : gt a 2 = .bool li) (h7 : gt a 7 = .pointer (some ⟨mk, 0, none⟩))
    (hK : ∀ a', Fh p t mk li 0 0 a' → K a' w) :
    g5.wp Tryd.prog (Exit.then K Q) a w := by
  have HKK := Lib.hid hK
  rw [lit464 a hz hdf, h0, h1, h2, h7]
  clear hK h0 h1 h2 hz hdf h7
  conv => arg 2; whnf
  go_wp2_with fail
  exact HKK.out _ ⟨rfl, rfl, rfl, rfl, rfl, rfl, rfl, rfl⟩
end Go.Proofs.YtocbbekciphjgaaDoor.Bs
