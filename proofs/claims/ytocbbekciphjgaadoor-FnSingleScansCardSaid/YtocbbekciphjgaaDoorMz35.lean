/- QdY, Al: parts of the proof, one behind another. -/
import Derived.Test.YtocbbekciphjgaaDoorRows
import Derived.WalkKit
import Derived.WalkSpells
import Derived.WalkLawsBesides
import Derived.BigGuard
import Derived.BigCall
import Derived.Test.YtocbbekciphjgaaDoorMz31
import Derived.Test.YtocbbekciphjgaaDoorMz32
import Derived.Test.YtocbbekciphjgaaDoorMz33
import Derived.Test.YtocbbekciphjgaaDoorMz34
/- QdY -/
/- The loops of yaml_parser_scan_flow_scalar: what they leave. -/
namespace Go.Proofs.YtocbbekciphjgaaDoor.Qd
open Go.RowKit Go.Proofs.YtocbbekciphjgaaDoor.Rdp Go.Proofs.YtocbbekciphjgaaDoor.Pa Go.Proofs.YtocbbekciphjgaaDoor.Sc
set_option linter.unusedVariables false
set_option linter.unusedSimpArgs false
theorem us_push (l : List Int) (x : Int) : us (l ++ [x]) = us l ++ u8 x := by
  rw [us_app]
  show us l ++ (u8 x ++ []) = _
  rw [List.append_nil]
/-- In the loop over characters that are not white. -/
def I0 (k : Kn) (p lo : Nat) (L0 : List Value) (w1 : World) (sg : Bool) (t mk : Nat) (v : Option (List Int)) (c u col : Nat) (rest out : List Int) (a : Act) (w : World) : Prop :=
  ∃ sv lbv tbv wsv, Fm sg p t mk sv lbv tbv wsv false a ∧ St k p lo L0 w1 c u col rest (us out) [] [] [] sv lbv tbv wsv w ∧ Full sg rest out [] v ∧ (us out).length + 2 ≤ 2 * c ∧ Lfd rest ∧ Rdy k.T c 2 u ∧ 1 ≤ u ∧ (col = 0 → marker rest = false)
/-- Where that loop ends. -/
def X2 (k : Kn) (p lo : Nat) (L0 : List Value) (w1 : World) (sg : Bool) (t mk : Nat) (v : Option (List Int)) (c0 : Nat) (a : Act) (w : World) : Prop :=
  ∃ c u col rest out, c0 ≤ c ∧ c ≤ k.T.length ∧ (c0 < c ∨ isBz (fb rest) = true ∨ fb rest = qt sg) ∧ Fro k.T c rest ∧ Lfd rest ∧ (col = 0 → marker rest = false) ∧ (fb rest = qt sg → v = some out) ∧ (D0 k p lo L0 w1 sg t mk v c u col rest out a w ∨ D1 k p lo L0 w1 sg t mk v c u col rest out a w)
theorem fb_no {x : Int} {r : List Int} (hx : Ch x) (h : isBz (fb (x :: r)) = false) : wh x = false ∧ x ≠ 10 := by
  by_cases hl : x < 128
  · rw [fb_small hl] at h
    unfold isBz at h
    simp at h
    unfold wh
    simp
    omega
  · unfold wh
    simp
    omega
theorem fb_ne {x k : Int} {r : List Int} (hx : Ch x) (h : fb (x :: r) ≠ k) (hk : k < 128) : x ≠ k := by
  rintro rfl
  exact h (fb_small hk)
theorem lfd_suffix {a b : List Int} (h : Lfd (a ++ b)) : Lfd b := by
  induction a with
  | nil => exact h
  | cons x a ih => exact ih (Lfd.tail h)
theorem esc_suffix {r at' : List Int} {x : Int} (h : Esc r x at') : ∃ a, r = a ++ at' := by
  cases h with
  | name g => exact ⟨[_], rfl⟩
  | num g1 g2 g3 g4 g5 => exact ⟨_ :: _, rfl⟩
theorem iround {k : Kn} {p t mk lo : Nat} {s0 s1 s2 : Int} {L0 : List Value} {w1 : World} (hC : Cx k p mk lo s0 s1 s2 L0 w1) {sg : Bool} {v : Option (List Int)} {c0 c u col : Nat} {rest out : List Int} {a : Act} {w : World} {K : Act → World → Prop} {Q : Exit → Act → World → Prop} (hc0 : c0 ≤ c) (h : I0 k p lo L0 w1 sg t mk v c u col rest out a w)
    (hK : ∀ a' w' c' u' col' rest' out', c < c' → c' ≤ k.T.length → I0 k p lo L0 w1 sg t mk v c' u' col' rest' out' a' w' → K a' w')
    (hX : ∀ a' w', X2 k p lo L0 w1 sg t mk v c0 a' w' → Q (.exit 2) a' w')
    (hE : v = none → ∀ a' w', a'.defers = [] → gt a' 6 = .bool false → Er k p w1 w' → Q .ret a' w') :
    cC.wp Tryd.prog (Exit.then K Q) a w := by
  obtain ⟨sv, lbv, tbv, wsv, hF, hS, hv, hz, hL, hR, hu, hM⟩ := h
  rw [cC_eq]
  refine wp_seq (sH hC hF hS hu ?_ ?_)
  · intro hbz a1 w2 hF1 hS1
    have hch := hS1.here.ch
    have hne : rest ≠ [] := by
      rintro rfl
      cases hbz
    obtain ⟨x, r, rfl⟩ : ∃ x r, rest = x :: r := by
      cases rest with
      | nil => exact absurd rfl hne
      | cons x r => exact ⟨x, r, rfl⟩
    have hx := hch x (by simp)
    obtain ⟨hw, h10⟩ := fb_no hx hbz
    have hq2 : ∀ a w, Q (.exit 2) a w → Exit.inBlock 3 (Exit.then K Q) (.exit 2) a w := fun _ _ h => h
    have hqr : ∀ a w, Q .ret a w → Exit.inBlock 3 (Exit.then K Q) .ret a w := fun _ _ h => h
    refine wp_block ?_
    rw [then_block]
    have hlen4 := u8_pos x
    have hbig : (us out).length + 4 ≤ 4 * c := by omega
    -- a character is read
    have rd : ∀ a3 w3 u3 svx, Fm sg p t mk svx lbv tbv wsv false a3 → St k p lo L0 w1 c u3 col (x :: r) (us out) [] [] [] svx lbv tbv wsv w3 → 1 ≤ u3 → x ≠ qt sg → (sg = false → x ≠ 92) →
        c111.wp Tryd.prog (Exit.then (fun a w => cW.wp Tryd.prog (Exit.then K (Exit.inBlock 3 (Exit.then K Q))) a w) (Exit.then K (Exit.inBlock 3 (Exit.then K Q)))) a3 w3 := by
      intro a3 w3 u3 svx hF3 hS3 hu3 hq hb
      obtain ⟨u4, rfl⟩ : ∃ u4, u3 = u4 + 1 := ⟨u3 - 1, by omega⟩
      refine s111 hC hF3 hS3 fun a4 w4 v4 hF4 hS4 => ?_
      refine uW hC hF4 hS4 fun a5 w5 u5 hF5 hS5 hR5 hu5 => ?_
      rw [← us_push] at hS5
      have hv5 := hv.other hw h10 hq hb
      rw [List.append_nil] at hv5
      refine hK a5 w5 _ _ _ _ (out ++ [x]) (by omega) hS5.here.fro.2 ⟨_, _, _, _, hF5, hS5, hv5, ?_, hL.tail, hR5, hu5, fun h => by omega⟩
      rw [us_push]
      simp only [List.length_append]
      omega
    rw [cE_eq]
    refine wp_seq (wp_seq (s14 hC hF1 hS1 hR hu hL fun a2 w3 hF2 hS2 e188 => ?_))
    cases sg with
    | true =>
      by_cases h39 : fb (x :: r) = 39
      · obtain ⟨r', hr'⟩ := fb_inv hch h39 (by omega) (by omega)
        obtain ⟨rfl, rfl⟩ := List.cons.inj hr'
        rw [h39] at e188
        by_cases h39b : fb r = 39
        · obtain ⟨r2, rfl⟩ := fb_inv (fun y hy => hch y (by simp [hy])) h39b (by omega) (by omega)
          have hu2 : 2 ≤ u := hS2.here.has hR (Nat.le_refl _) (by simp)
          obtain ⟨u0, rfl⟩ : ∃ u0, u = u0 + 1 + 1 := ⟨u - 2, by omega⟩
          refine wp_cond_split (t := true) (show a2.tmps.getD 188 undef = _ from e188) (fun _ => ?_) (fun h => by cases h)
          rw [cTwo_eq]
          refine wp_seq (s15 hC hF2 hS2 (by simp only [List.length_nil]; omega) fun a3 w4 v3 hF3 hS3 => ?_)
          refine wp_seq (s16 hC hF3 hS3 fun a4 w5 hF4 hS4 => ?_)
          rw [u8_1 (by omega)] at hS4
          refine s17 hC hF4 hS4 fun a5 w6 hF5 hS5 => ?_
          rw [u8_1 (by omega)] at hS5
          refine uW hC hF5 hS5 fun a6 w7 u6 hF6 hS6 hR6 hu6 => ?_
          rw [show us out ++ [39] = us (out ++ [39]) from (us_snoc (by omega)).symm] at hS6
          have hv6 := hv.twice
          rw [List.append_nil] at hv6
          refine hK a6 w7 _ _ _ _ (out ++ [39]) (by simp only [List.length_cons, List.length_nil]; omega) hS6.here.fro.2 ⟨_, _, _, _, hF6, hS6, hv6, ?_, hL.tail.tail, hR6, hu6, fun h => by omega⟩
          rw [us_snoc (by omega)]
          simp only [List.length_append, List.length_cons, List.length_nil]
          omega
        · rw [show (fb (39 :: r).tail == 39) = false from nb h39b] at e188
          refine wp_cond_split (t := false) (show a2.tmps.getD 188 undef = _ from e188) (fun h => by cases h) (fun _ => ?_)
          rw [cE1_eq]
          refine wp_seq (s18 hC hF2 hS2 hu fun a3 w4 hF3 hS3 e209 => ?_)
          rw [h39] at e209
          refine wp_cond_split (t := true) (show a3.tmps.getD 209 undef = _ from e209) (fun _ => wp_exit ?_) (fun h => by cases h)
          refine hq2 _ _ (hX a3 w4 ⟨c, u, col, 39 :: r, out, hc0, hS3.here.fro.2, .inr (.inr h39), hS3.here.fro, hL, hM, fun _ => ?_, .inl ⟨[], _, _, _, _, hF3, hS3, hv, by simp [us]; omega⟩⟩)
          have := Full.close (sg := true) hv (fun _ t ht => h39b (by rw [ht]; exact fb_small (by omega)))
          rw [List.append_nil] at this
          exact this
      · rw [show (fb (x :: r) == 39) = false from nb h39] at e188
        refine wp_cond_split (t := false) (show a2.tmps.getD 188 undef = _ from e188) (fun h => by cases h) (fun _ => ?_)
        rw [cE1_eq]
        refine wp_seq (s18 hC hF2 hS2 hu fun a3 w4 hF3 hS3 e209 => ?_)
        rw [show (fb (x :: r) == 39) = false from nb h39] at e209
        refine wp_cond_split (t := false) (show a3.tmps.getD 209 undef = _ from e209) (fun h => by cases h) (fun _ => ?_)
        rw [cE2_eq]
        refine wp_seq (s19 hC hF3 hS3 hu fun a4 w5 hF4 hS4 e224 => ?_)
        refine wp_cond_split (t := false) (show a4.tmps.getD 224 undef = _ from e224) (fun h => by cases h) (fun _ => ?_)
        rw [cE3_eq]
        refine wp_seq (s20 hC hF4 hS4 hR hu hL fun a5 w6 hF5 hS5 e251 => ?_)
        refine wp_cond_split (t := false) (show a5.tmps.getD 251 undef = _ from e251) (fun h => by cases h) (fun _ => ?_)
        rw [cE4_eq]
        refine wp_seq (s26 hC hF5 hS5 hu fun a6 w7 hF6 hS6 e280 => ?_)
        refine wp_cond_split (t := false) (show a6.tmps.getD 280 undef = _ from e280) (fun h => by cases h) (fun _ => ?_)
        exact rd a6 w7 u sv hF6 hS6 hu (fb_ne hx h39 (by decide)) (fun h => by cases h)
    | false =>
      refine wp_cond_split (t := false) (show a2.tmps.getD 188 undef = _ from e188) (fun h => by cases h) (fun _ => ?_)
      rw [cE1_eq]
      refine wp_seq (s18 hC hF2 hS2 hu fun a3 w4 hF3 hS3 e209 => ?_)
      refine wp_cond_split (t := false) (show a3.tmps.getD 209 undef = _ from e209) (fun h => by cases h) (fun _ => ?_)
      rw [cE2_eq]
      refine wp_seq (s19 hC hF3 hS3 hu fun a4 w5 hF4 hS4 e224 => ?_)
      by_cases h34 : fb (x :: r) = 34
      · obtain ⟨r', hr'⟩ := fb_inv hch h34 (by omega) (by omega)
        obtain ⟨rfl, rfl⟩ := List.cons.inj hr'
        rw [h34] at e224
        refine wp_cond_split (t := true) (show a4.tmps.getD 224 undef = _ from e224) (fun _ => wp_exit ?_) (fun h => by cases h)
        refine hq2 _ _ (hX a4 w5 ⟨c, u, col, 34 :: r, out, hc0, hS4.here.fro.2, .inr (.inr h34), hS4.here.fro, hL, hM, fun _ => ?_, .inl ⟨[], _, _, _, _, hF4, hS4, hv, by simp [us]; omega⟩⟩)
        have := Full.close (sg := false) hv (fun h => by cases h)
        rw [List.append_nil] at this
        exact this
      · rw [show (fb (x :: r) == 34) = false from nb h34] at e224
        refine wp_cond_split (t := false) (show a4.tmps.getD 224 undef = _ from e224) (fun h => by cases h) (fun _ => ?_)
        rw [cE3_eq]
        refine wp_seq (s20 hC hF4 hS4 hR hu hL fun a5 w6 hF5 hS5 e251 => ?_)
        by_cases h92 : fb (x :: r) = 92
        · obtain ⟨r', hr'⟩ := fb_inv hch h92 (by omega) (by omega)
          obtain ⟨rfl, rfl⟩ := List.cons.inj hr'
          rw [h92] at e251
          by_cases hb10 : fb r = 10
          · obtain ⟨r2, rfl⟩ := fb_inv (fun y hy => hch y (by simp [hy])) hb10 (by omega) (by omega)
            rw [show (92 :: 10 :: r2).tail = 10 :: r2 from rfl, hb10] at e251
            refine wp_cond_split (t := true) (show a5.tmps.getD 251 undef = _ from e251) (fun _ => ?_) (fun h => by cases h)
            rw [cBrk_eq]
            refine wp_seq (uB3 hC hF5 hS5 fun a6 w7 u6 hF6 hS6 hR6 hu6 => ?_)
            have hu2 : 2 ≤ u6 := hS6.here.has hR6 (by omega) (by simp)
            obtain ⟨u0, rfl⟩ : ∃ u0, u6 = u0 + 1 + 1 := ⟨u6 - 2, by omega⟩
            refine wp_seq (s23 hC hF6 hS6 fun a7 w8 hF7 hS7 => ?_)
            rw [u8_1 (by omega)] at hS7
            refine wp_seq (s24 hC hF7 hS7 fun a8 w9 hF8 hS8 => ?_)
            refine wp_seq (s25 hC hF8 fun a9 hF9 => wp_exit ?_)
            obtain ⟨n, at', g1, g2⟩ := hv.esc_feed
            rw [List.append_nil] at g2
            refine hq2 _ _ (hX a9 w9 ⟨_, u0, 0, r2, out, by omega, hS8.here.fro.2, .inl (by omega), hS8.here.fro, hL.tail.tail, fun _ => g1.mid.1, fun hq => ?_, .inr ⟨0, n, at', [], feeds, _, _, _, _, .inr ⟨rfl, rfl⟩, hF9, hS8, g1.mid.2, by rw [Nat.zero_add]; exact g2, by simp only [List.length_nil, List.length_cons]; omega⟩⟩)
            obtain ⟨r3, rfl⟩ := fb_inv hS8.here.ch hq (by decide) (by decide)
            obtain ⟨rfl, rfl⟩ := g1.mid.2.stop (fun c r e => by obtain ⟨rfl, _⟩ := List.cons.inj e; exact ⟨rfl, by decide⟩)
            have := Full.close (sg := false) g2 (fun h => by cases h)
            simpa [feeds] using this
          · rw [show (fb (92 :: r).tail == 10) = false from nb hb10] at e251
            refine wp_cond_split (t := false) (show a5.tmps.getD 251 undef = _ from e251) (fun h => by cases h) (fun _ => ?_)
            rw [cE4_eq]
            refine wp_seq (s26 hC hF5 hS5 hu fun a6 w7 hF6 hS6 e280 => ?_)
            rw [h92] at e280
            refine wp_cond_split (t := true) (show a6.tmps.getD 280 undef = _ from e280) (fun _ => ?_) (fun h => by cases h)
            have hr10 : ∀ t, r ≠ 10 :: t := fun t ht => hb10 (by rw [ht]; exact fb_small (by omega))
            obtain ⟨haw, hcase⟩ := hv.escape hr10
            refine sEsc hC hS6 hF6 hR hL hr10 haw hbig ?_ ?_
            · intro y at' a7 w8 c7 u7 col7 v7 he hF7 hS7 hc7 hcol7
              rcases hcase with ⟨_, hno⟩ | ⟨y2, at2, he2, hf2⟩
              · exact absurd he (hno y at')
              · obtain ⟨rfl, rfl⟩ := esc_det he he2
                rw [List.append_nil] at hf2
                refine uW hC hF7 hS7 fun a8 w9 u8' hF8 hS8 hR8 hu8 => ?_
                rw [← us_push] at hS8
                have hy4 := u8_pos y
                have hLat : Lfd at' := by
                  obtain ⟨pre, hp⟩ := esc_suffix he
                  have hL1 := hL.tail
                  rw [hp] at hL1
                  exact lfd_suffix hL1
                refine hK a8 w9 _ _ _ _ (out ++ [y]) (by omega) hS8.here.fro.2 ⟨_, _, _, _, hF8, hS8, hf2, ?_, hLat, hR8, hu8, fun h => by omega⟩
                rw [us_push]
                simp only [List.length_append]
                omega
            · intro hno a7 w8 q1 q2 q3
              rcases hcase with ⟨hvn, _⟩ | ⟨y2, at2, he2, hf2⟩
              · exact hqr _ _ (hE hvn a7 w8 q1 q2 q3)
              · exact absurd he2 (hno y2 at2)
        · rw [show (fb (x :: r) == 92) = false from nb h92] at e251
          refine wp_cond_split (t := false) (show a5.tmps.getD 251 undef = _ from e251) (fun h => by cases h) (fun _ => ?_)
          rw [cE4_eq]
          refine wp_seq (s26 hC hF5 hS5 hu fun a6 w7 hF6 hS6 e280 => ?_)
          rw [show (fb (x :: r) == 92) = false from nb h92] at e280
          refine wp_cond_split (t := false) (show a6.tmps.getD 280 undef = _ from e280) (fun h => by cases h) (fun _ => ?_)
          exact rd a6 w7 u sv hF6 hS6 hu (fb_ne hx h34 (by decide)) (fun _ => fb_ne hx h92 (by omega))
  · intro hbz a1 w2 hF1 hS1
    refine hX a1 w2 ⟨c, u, col, rest, out, hc0, hS1.here.fro.2, .inr (.inl hbz), hS1.here.fro, hL, hM, fun hq => ?_, .inl ⟨[], _, _, _, _, hF1, hS1, hv, by simp [us]; omega⟩⟩
    rw [hq] at hbz
    cases sg <;> cases hbz
theorem iloop {k : Kn} {p t mk lo : Nat} {s0 s1 s2 : Int} {L0 : List Value} {w1 : World} (hC : Cx k p mk lo s0 s1 s2 L0 w1) {sg : Bool} {v : Option (List Int)} {c u col : Nat} {rest out : List Int} {a : Act} {w : World} {K : Act → World → Prop} {Q : Exit → Act → World → Prop} (hcl : c ≤ k.T.length) (h : I0 k p lo L0 w1 sg t mk v c u col rest out a w)
    (hX : ∀ a' w', X2 k p lo L0 w1 sg t mk v c a' w' → K a' w')
    (hE : v = none → ∀ a' w', a'.defers = [] → gt a' 6 = .bool false → Er k p w1 w' → Q .ret a' w') :
    (Code.block 2 (Code.loop cC)).wp Tryd.prog (Exit.then K Q) a w := by
  refine wp_block ?_
  refine wp_loop_ghost_k (fun g a2 w2 => ∃ c2 u2 col2 rest2 out2, g = k.T.length - c2 ∧ c ≤ c2 ∧ c2 ≤ k.T.length ∧ I0 k p lo L0 w1 sg t mk v c2 u2 col2 rest2 out2 a2 w2) (k.T.length - c) ⟨c, u, col, rest, out, rfl, Nat.le_refl _, hcl, h⟩ ?_
  rintro g a2 w2 ⟨c2, u2, col2, rest2, out2, rfl, hc2, hcl2, h2⟩ J K2 hJ hK2
  refine iround hC hc2 h2 ?_ ?_ ?_
  · intro a3 w3 c3 u3 col3 rest3 out3 hlt hcl3 h3
    exact hK2 _ _ (Handed.intro (k.T.length - c3) (by omega) (hJ _ _ _ ⟨c3, u3, col3, rest3, out3, rfl, by omega, hcl3, h3⟩))
  · intro a3 w3 h3
    exact hX a3 w3 h3
  · intro hv a3 w3 q1 q2 q3
    exact hE hv a3 w3 q1 q2 q3
/-- At the head of the outer loop. -/
def O0 (k : Kn) (p lo : Nat) (L0 : List Value) (w1 : World) (sg : Bool) (t mk : Nat) (v : Option (List Int)) (c u col : Nat) (rest out : List Int) (a : Act) (w : World) : Prop :=
  ∃ sv lbv tbv wsv lbr, Fm sg p t mk sv lbv tbv wsv lbr a ∧ St k p lo L0 w1 c u col rest (us out) [] [] [] sv lbv tbv wsv w ∧ Full sg rest out [] v ∧ (us out).length + 2 ≤ 2 * c ∧ Lfd rest ∧ (col = 0 → marker rest = false)
/-- At the closing quote. -/
def Z0 (k : Kn) (p lo : Nat) (L0 : List Value) (w1 : World) (sg : Bool) (t mk : Nat) (v : Option (List Int)) (a : Act) (w : World) : Prop :=
  ∃ c u col r out lb tb ws sv lbv tbv wsv lbr, v = some out ∧ Fm sg p t mk sv lbv tbv wsv lbr a ∧ St k p lo L0 w1 c u col (qt sg :: r) (us out) lb tb ws sv lbv tbv wsv w ∧ 1 ≤ u
noncomputable def cR : Code := .seq (.block 2 (.loop cC)) (.seq cV (.seq cQ (.seq (.block 9 (.loop cD)) cJ)))
theorem cX_eq2 : cX = .seq cU (.seq cM (.seq cZ (.seq cS cR))) := cX_eq
theorem obody {k : Kn} {p t mk lo : Nat} {s0 s1 s2 : Int} {L0 : List Value} {w1 : World} (hC : Cx k p mk lo s0 s1 s2 L0 w1) {sg : Bool} {v : Option (List Int)} {c col : Nat} {rest out : List Int} {a : Act} {w : World} {K : Act → World → Prop} {Q : Exit → Act → World → Prop} {u1 : Nat} {sv lbv tbv wsv : Value} (hne : rest ≠ []) (hF4 : Fm sg p t mk sv lbv tbv wsv false a) (hS3 : St k p lo L0 w1 c u1 col rest (us out) [] [] [] sv lbv tbv wsv w) (hR1 : Rdy k.T c 4 u1) (hu1 : 1 ≤ u1) (hv : Full sg rest out [] v) (hz : (us out).length + 2 ≤ 2 * c) (hL : Lfd rest) (hM : col = 0 → marker rest = false)
    (hK : ∀ a' w' c' u' col' rest' out', c < c' → c' ≤ k.T.length → O0 k p lo L0 w1 sg t mk v c' u' col' rest' out' a' w' → K a' w')
    (hX : ∀ a' w', Z0 k p lo L0 w1 sg t mk v a' w' → Q (.exit 0) a' w')
    (hE : v = none → ∀ a' w', a'.defers = [] → gt a' 6 = .bool false → Er k p w1 w' → Q .ret a' w') :
    cR.wp Tryd.prog (Exit.then K (Exit.inBlock 1 (Exit.then K Q))) a w := by
  have hq0 : ∀ a w, Q (.exit 0) a w → Exit.inBlock 1 (Exit.then K Q) (.exit 0) a w := fun _ _ h => h
  have hqr : ∀ a w, Q .ret a w → Exit.inBlock 1 (Exit.then K Q) .ret a w := fun _ _ h => h
  unfold cR
  refine wp_seq (iloop hC hS3.here.fro.2 ⟨_, _, _, _, hF4, hS3, hv, hz, hL, hR1.imp (fun h => by omega) id, hu1, hM⟩ ?_ ?_)
  · intro a5 w5 hx2
    obtain ⟨c2, u2, col2, rest2, out2, hc2, hcl2, hpr, hfro, hL2, hM2, hq, hD⟩ := hx2
    have htop := hS3.here.fro
    have hchtop := hS3.here.ch
    -- behind the closing check
    have go : ∀ a6 w6 u6, fb rest2 ≠ qt sg → Dw k p lo L0 w1 sg t mk v c2 u6 col2 rest2 out2 a6 w6 → (Code.seq (.block 9 (.loop cD)) cJ).wp Tryd.prog (Exit.then K (Exit.inBlock 1 (Exit.then K Q))) a6 w6 := by
      intro a6 w6 u6 hnq hdw
      refine wp_seq (dloop hC hcl2 hdw fun a7 w7 c7 u7 col7 rest7 hc7 hcl7 hb7 hd7 => ?_)
      obtain ⟨hL7, hu7, hM7, hd7⟩ := hd7
      have hfro7 : Fro k.T c7 rest7 := by
        rcases hd7 with ⟨_, _, _, _, _, _, hS7, _⟩ | ⟨_, _, _, _, _, _, _, _, _, _, _, hS7, _⟩
        · exact hS7.here.fro
        · exact hS7.here.fro
      have hlt : c < c7 := by
        apply Classical.byContradiction
        intro hh
        obtain rfl : c7 = c := by omega
        obtain rfl : c2 = c7 := by omega
        have e1 : fb rest2 = fb rest7 := (fb_s hfro).symm.trans (fb_s hfro7)
        have e2 : fb rest2 = fb rest := (fb_s hfro).symm.trans (fb_s htop)
        rcases hpr with h | h | h
        · omega
        · rcases fb_pos hchtop with h0 | h0
          · exact hne h0
          · rw [← e2] at h0
            rw [e1] at h h0
            unfold isBz at h
            unfold isBlank at hb7
            simp at h hb7
            omega
        · exact hnq h
      have hhead : ∀ x r, rest7 = x :: r → (∀ y ∈ rest7, Ch y) → wh x = false ∧ x ≠ 10 := by
        intro x r e hch
        subst e
        have hx := hch x (by simp)
        by_cases hl : x < 128
        · rw [fb_small hl] at hb7
          unfold isBlank at hb7
          unfold wh
          simp at hb7 ⊢
          omega
        · unfold wh
          simp
          omega
      rcases hd7 with ⟨white, v8, v9, v10, v11, hF7, hS7, hv7, hz7⟩ | ⟨m, n, at', lbl, F, v8, v9, v10, v11, hmode, hF7, hS7, he7, hv7, hz7⟩
      · refine sJw (m := 0) (lb := []) (tb := []) hC hF7 hS7 (by omega) fun a8 w8 y8 y9 y10 y11 hF8 hS8 => ?_
        rw [← us_app] at hS8
        refine hK a8 w8 c7 u7 col7 rest7 (out2 ++ white) hlt hcl7 ⟨_, _, _, _, _, hF8, hS8, ?_, ?_, hL7, hM7⟩
        · cases rest7 with
          | nil =>
            have := hv7.nil
            subst this
            exact .eof
          | cons x r =>
            obtain ⟨g1, g2⟩ := hhead x r rfl hS7.here.ch
            exact hv7.flush g1 g2
        · rw [us_app]
          simp only [List.length_append]
          omega
      · obtain ⟨rfl, rfl⟩ := he7.stop (fun x r e => hhead x r e hS7.here.ch)
        rw [Nat.add_zero] at hv7
        have hfl := feeds_len m
        have hfo := fold_len m
        rcases hmode with ⟨rfl, rfl⟩ | ⟨rfl, rfl⟩
        · refine sJf (lb := []) (tb := []) (ws := []) hC hF7 hS7 (by simp only [List.length_cons, List.length_nil] at hz7; omega) fun a8 w8 y8 y9 y10 y11 hF8 hS8 => ?_
          rw [show us out2 ++ fold m = us (out2 ++ fold m) by rw [us_app, us_fold]] at hS8
          refine hK a8 w8 c7 u7 col7 _ (out2 ++ fold m) hlt hcl7 ⟨_, _, _, _, _, hF8, hS8, hv7, ?_, hL7, hM7⟩
          rw [us_app, us_fold]
          simp only [List.length_append, List.length_cons, List.length_nil] at hz7 ⊢
          omega
        · refine sJe (m := 0) (lb := []) (ws := []) hC hF7 hS7 (by simp only [List.length_nil] at hz7; omega) fun a8 w8 y8 y9 y10 y11 hF8 hS8 => ?_
          rw [show us out2 ++ feeds m = us (out2 ++ feeds m) by rw [us_app, us_feeds]] at hS8
          refine hK a8 w8 c7 u7 col7 _ (out2 ++ feeds m) hlt hcl7 ⟨_, _, _, _, _, hF8, hS8, hv7, ?_, hL7, hM7⟩
          rw [us_app, us_feeds]
          simp only [List.length_append, List.length_nil] at hz7 ⊢
          omega
    have hcq : 0 < qt sg ∧ qt sg < 128 := by cases sg <;> exact ⟨by decide, by decide⟩
    rcases hD with ⟨white, v8, v9, v10, v11, hF5, hS5, hv5, hz5⟩ | ⟨m, n, at', lbl, F, v8, v9, v10, v11, hmode, hF5, hS5, he5, hv5, hz5⟩
    · refine wp_seq (uV hC hF5 hS5 fun a6 w6 u6 hF6 hS6 hR6 hu6 => ?_)
      refine wp_seq (sQ hC hF6 hS6 hu6 ?_ ?_)
      · intro hnq a7 w7 hF7 hS7
        exact go a7 w7 u6 hnq ⟨hL2, hu6, hM2, .inl ⟨white, _, _, _, _, hF7, hS7, hv5, hz5⟩⟩
      · intro hqq a7 w7 hF7 hS7
        obtain ⟨r, rfl⟩ := fb_inv hS7.here.ch hqq hcq.1 hcq.2
        exact hq0 _ _ (hX a7 w7 ⟨_, _, _, r, out2, _, _, _, _, _, _, _, _, hq hqq, hF7, hS7, hu6⟩)
    · refine wp_seq (uV hC hF5 hS5 fun a6 w6 u6 hF6 hS6 hR6 hu6 => ?_)
      refine wp_seq (sQ hC hF6 hS6 hu6 ?_ ?_)
      · intro hnq a7 w7 hF7 hS7
        exact go a7 w7 u6 hnq ⟨hL2, hu6, hM2, .inr ⟨m, n, at', lbl, F, _, _, _, _, hmode, hF7, hS7, he5, hv5, hz5⟩⟩
      · intro hqq a7 w7 hF7 hS7
        obtain ⟨r, rfl⟩ := fb_inv hS7.here.ch hqq hcq.1 hcq.2
        exact hq0 _ _ (hX a7 w7 ⟨_, _, _, r, out2, _, _, _, _, _, _, _, _, hq hqq, hF7, hS7, hu6⟩)
  · intro hvn a5 w5 q1 q2 q3
    exact hqr _ _ (hE hvn a5 w5 q1 q2 q3)
theorem oround {k : Kn} {p t mk lo : Nat} {s0 s1 s2 : Int} {L0 : List Value} {w1 : World} (hC : Cx k p mk lo s0 s1 s2 L0 w1) {sg : Bool} {v : Option (List Int)} {c u col : Nat} {rest out : List Int} {a : Act} {w : World} {K : Act → World → Prop} {Q : Exit → Act → World → Prop} (h : O0 k p lo L0 w1 sg t mk v c u col rest out a w)
    (hK : ∀ a' w' c' u' col' rest' out', c < c' → c' ≤ k.T.length → O0 k p lo L0 w1 sg t mk v c' u' col' rest' out' a' w' → K a' w')
    (hX : ∀ a' w', Z0 k p lo L0 w1 sg t mk v a' w' → Q (.exit 0) a' w')
    (hE : v = none → ∀ a' w', a'.defers = [] → gt a' 6 = .bool false → Er k p w1 w' → Q .ret a' w') :
    (Code.block 1 cX).wp Tryd.prog (Exit.then K Q) a w := by
  obtain ⟨sv, lbv, tbv, wsv, lbr, hF, hS, hv, hz, hL, hM⟩ := h
  refine wp_block ?_
  rw [then_block, cX_eq2]
  have hqr : ∀ a w, Q .ret a w → Exit.inBlock 1 (Exit.then K Q) .ret a w := fun _ _ h => h
  refine wp_seq (uU hC hF hS fun a1 w2 u1 hF1 hS1 hR1 hu1 => ?_)
  refine wp_seq (sM hC hF1 hS1 hR1 hu1 hL hM fun a2 w3 hF2 hS2 => ?_)
  refine wp_seq (sZ hC hF2 hS2 hu1 ?_ ?_)
  · intro hne a3 w4 hF3 hS3
    refine wp_seq (sS hC hF3 fun a4 hF4 => ?_)
    exact obody hC hne hF4 hS3 hR1 hu1 hv hz hL hM hK hX hE
  · intro hnil a3 w4 q1 q2 q3
    subst hnil
    exact hqr _ _ (hE hv.nil a3 w4 q1 q2 q3)
/-- Before the first round. -/
def O1 (k : Kn) (p lo : Nat) (L0 : List Value) (w1 : World) (sg : Bool) (t mk : Nat) (v : Option (List Int)) (c u col : Nat) (rest out : List Int) (a : Act) (w : World) : Prop :=
  ∃ sv lbv tbv wsv, Fu sg p t mk sv lbv tbv wsv a ∧ St k p lo L0 w1 c u col rest (us out) [] [] [] sv lbv tbv wsv w ∧ Full sg rest out [] v ∧ (us out).length + 2 ≤ 2 * c ∧ Lfd rest ∧ (col = 0 → marker rest = false)
theorem oround0 {k : Kn} {p t mk lo : Nat} {s0 s1 s2 : Int} {L0 : List Value} {w1 : World} (hC : Cx k p mk lo s0 s1 s2 L0 w1) {sg : Bool} {v : Option (List Int)} {c u col : Nat} {rest out : List Int} {a : Act} {w : World} {K : Act → World → Prop} {Q : Exit → Act → World → Prop} (h : O1 k p lo L0 w1 sg t mk v c u col rest out a w)
    (hK : ∀ a' w' c' u' col' rest' out', c < c' → c' ≤ k.T.length → O0 k p lo L0 w1 sg t mk v c' u' col' rest' out' a' w' → K a' w')
    (hX : ∀ a' w', Z0 k p lo L0 w1 sg t mk v a' w' → Q (.exit 0) a' w')
    (hE : v = none → ∀ a' w', a'.defers = [] → gt a' 6 = .bool false → Er k p w1 w' → Q .ret a' w') :
    (Code.block 1 cX).wp Tryd.prog (Exit.then K Q) a w := by
  obtain ⟨sv, lbv, tbv, wsv, hF, hS, hv, hz, hL, hM⟩ := h
  refine wp_block ?_
  rw [then_block, cX_eq2]
  have hqr : ∀ a w, Q .ret a w → Exit.inBlock 1 (Exit.then K Q) .ret a w := fun _ _ h => h
  refine wp_seq (uU0 hC hF hS fun a1 w2 u1 hF1 hS1 hR1 hu1 => ?_)
  refine wp_seq (sM0 hC hF1 hS1 hR1 hu1 hL hM fun a2 w3 hF2 hS2 => ?_)
  refine wp_seq (sZ0 hC hF2 hS2 hu1 ?_ ?_)
  · intro hne a3 w4 hF3 hS3
    refine wp_seq (sS0 hC hF3 fun a4 hF4 => ?_)
    exact obody hC hne hF4 hS3 hR1 hu1 hv hz hL hM hK hX hE
  · intro hnil a3 w4 q1 q2 q3
    subst hnil
    exact hqr _ _ (hE hv.nil a3 w4 q1 q2 q3)
/-- The outer loop whole. -/
theorem oloop {k : Kn} {p t mk lo : Nat} {s0 s1 s2 : Int} {L0 : List Value} {w1 : World} (hC : Cx k p mk lo s0 s1 s2 L0 w1) {sg : Bool} {v : Option (List Int)} {c u col : Nat} {rest out : List Int} {a : Act} {w : World} {K : Act → World → Prop} {Q : Exit → Act → World → Prop} (hcl : c ≤ k.T.length) (h : O1 k p lo L0 w1 sg t mk v c u col rest out a w)
    (hX : ∀ a' w', Z0 k p lo L0 w1 sg t mk v a' w' → K a' w')
    (hE : v = none → ∀ a' w', a'.defers = [] → gt a' 6 = .bool false → Er k p w1 w' → Q .ret a' w') :
    (Code.block 0 cLoop).wp Tryd.prog (Exit.then K Q) a w := by
  rw [cLoop_eq]
  refine wp_block ?_
  refine wp_loop_ghost_k (fun g a2 w2 => ∃ c2 u2 col2 rest2 out2, g = k.T.length - c2 ∧ c2 ≤ k.T.length ∧ (O1 k p lo L0 w1 sg t mk v c2 u2 col2 rest2 out2 a2 w2 ∨ O0 k p lo L0 w1 sg t mk v c2 u2 col2 rest2 out2 a2 w2)) (k.T.length - c) ⟨c, u, col, rest, out, rfl, hcl, .inl h⟩ ?_
  rintro g a2 w2 ⟨c2, u2, col2, rest2, out2, rfl, hcl2, h2⟩ J K2 hJ hK2
  rcases h2 with h2 | h2
  · refine oround0 hC h2 ?_ ?_ ?_
    · intro a3 w3 c3 u3 col3 rest3 out3 hlt hcl3 h3
      exact hK2 _ _ (Handed.intro (k.T.length - c3) (by omega) (hJ _ _ _ ⟨c3, u3, col3, rest3, out3, rfl, hcl3, .inr h3⟩))
    · intro a3 w3 h3
      exact hX a3 w3 h3
    · intro hv a3 w3 q1 q2 q3
      exact hE hv a3 w3 q1 q2 q3
  · refine oround hC h2 ?_ ?_ ?_
    · intro a3 w3 c3 u3 col3 rest3 out3 hlt hcl3 h3
      exact hK2 _ _ (Handed.intro (k.T.length - c3) (by omega) (hJ _ _ _ ⟨c3, u3, col3, rest3, out3, rfl, hcl3, .inr h3⟩))
    · intro a3 w3 h3
      exact hX a3 w3 h3
    · intro hv a3 w3 q1 q2 q3
      exact hE hv a3 w3 q1 q2 q3
end Go.Proofs.YtocbbekciphjgaaDoor.Qd
/- Al -/
/- Whether a byte is a letter of a name (is_alpha), walked; one theorem a case. -/
namespace Go.Proofs.YtocbbekciphjgaaDoor.Al
open Go.RowKit
set_option linter.unusedVariables false
theorem ret_b {a b : Bool} (h : a = b) : Ending.returned (.bool a) = .returned (.bool b) := by rw [h]
/-- A letter of a name. -/
def al (x : Int) : Bool := decide ((48 ≤ x ∧ x ≤ 57) ∨ (65 ≤ x ∧ x ≤ 90) ∨ (97 ≤ x ∧ x ≤ 122) ∨ x = 95 ∨ x = 45)

set_option maxHeartbeats 1000000 in
set_option maxRecDepth 100000 in
theorem a_a (b o n c i : Nat) (x : Int) (hi : i < n) (hm : n ≤ 9223372036854775807) (hlo : 0 ≤ x) (hhi : x ≤ 44) (h95 : (x == 95) = false) (h45 : (x == 45) = false) (w : World) (hx : w.cell? ⟨b, o + i, none⟩ = some (.int .u8 x)) :
    Calls Tryd.prog 108 #[.slice (some ⟨b, o, none⟩) n c, .int .i64 i] w fun e w' => e = .returned (.bool false) ∧ w = w' := by
  go_enter Tryd.func108, Tryd.ntmps108
  try simp only [List.append]
  go_wp2_with fail
  go_ret
  first | exact ⟨rfl, rfl⟩ | exact ⟨ret_b (by simp; omega), rfl⟩

set_option maxHeartbeats 1000000 in
set_option maxRecDepth 100000 in
theorem a_b (b o n c i : Nat) (x : Int) (hi : i < n) (hm : n ≤ 9223372036854775807) (hlo : 45 ≤ x) (hhi : x ≤ 45) (h95 : (x == 95) = false) (h45 : (x == 45) = true) (w : World) (hx : w.cell? ⟨b, o + i, none⟩ = some (.int .u8 x)) :
    Calls Tryd.prog 108 #[.slice (some ⟨b, o, none⟩) n c, .int .i64 i] w fun e w' => e = .returned (.bool true) ∧ w = w' := by
  go_enter Tryd.func108, Tryd.ntmps108
  try simp only [List.append]
  go_wp2_with fail
  go_ret
  first | exact ⟨rfl, rfl⟩ | exact ⟨ret_b (by simp; omega), rfl⟩

set_option maxHeartbeats 1000000 in
set_option maxRecDepth 100000 in
theorem a_c (b o n c i : Nat) (x : Int) (hi : i < n) (hm : n ≤ 9223372036854775807) (hlo : 46 ≤ x) (hhi : x ≤ 47) (h95 : (x == 95) = false) (h45 : (x == 45) = false) (w : World) (hx : w.cell? ⟨b, o + i, none⟩ = some (.int .u8 x)) :
    Calls Tryd.prog 108 #[.slice (some ⟨b, o, none⟩) n c, .int .i64 i] w fun e w' => e = .returned (.bool false) ∧ w = w' := by
  go_enter Tryd.func108, Tryd.ntmps108
  try simp only [List.append]
  go_wp2_with fail
  go_ret
  first | exact ⟨rfl, rfl⟩ | exact ⟨ret_b (by simp; omega), rfl⟩

set_option maxHeartbeats 1000000 in
set_option maxRecDepth 100000 in
theorem a_d (b o n c i : Nat) (x : Int) (hi : i < n) (hm : n ≤ 9223372036854775807) (hlo : 48 ≤ x) (hhi : x ≤ 57) (h95 : (x == 95) = false) (h45 : (x == 45) = false) (w : World) (hx : w.cell? ⟨b, o + i, none⟩ = some (.int .u8 x)) :
    Calls Tryd.prog 108 #[.slice (some ⟨b, o, none⟩) n c, .int .i64 i] w fun e w' => e = .returned (.bool true) ∧ w = w' := by
  go_enter Tryd.func108, Tryd.ntmps108
  try simp only [List.append]
  go_wp2_with fail
  go_ret
  first | exact ⟨rfl, rfl⟩ | exact ⟨ret_b (by simp; omega), rfl⟩

set_option maxHeartbeats 1000000 in
set_option maxRecDepth 100000 in
theorem a_e (b o n c i : Nat) (x : Int) (hi : i < n) (hm : n ≤ 9223372036854775807) (hlo : 58 ≤ x) (hhi : x ≤ 64) (h95 : (x == 95) = false) (h45 : (x == 45) = false) (w : World) (hx : w.cell? ⟨b, o + i, none⟩ = some (.int .u8 x)) :
    Calls Tryd.prog 108 #[.slice (some ⟨b, o, none⟩) n c, .int .i64 i] w fun e w' => e = .returned (.bool false) ∧ w = w' := by
  go_enter Tryd.func108, Tryd.ntmps108
  try simp only [List.append]
  go_wp2_with fail
  go_ret
  first | exact ⟨rfl, rfl⟩ | exact ⟨ret_b (by simp; omega), rfl⟩

set_option maxHeartbeats 1000000 in
set_option maxRecDepth 100000 in
theorem a_f (b o n c i : Nat) (x : Int) (hi : i < n) (hm : n ≤ 9223372036854775807) (hlo : 65 ≤ x) (hhi : x ≤ 90) (h95 : (x == 95) = false) (h45 : (x == 45) = false) (w : World) (hx : w.cell? ⟨b, o + i, none⟩ = some (.int .u8 x)) :
    Calls Tryd.prog 108 #[.slice (some ⟨b, o, none⟩) n c, .int .i64 i] w fun e w' => e = .returned (.bool true) ∧ w = w' := by
  go_enter Tryd.func108, Tryd.ntmps108
  try simp only [List.append]
  go_wp2_with fail
  go_ret
  first | exact ⟨rfl, rfl⟩ | exact ⟨ret_b (by simp; omega), rfl⟩

set_option maxHeartbeats 1000000 in
set_option maxRecDepth 100000 in
theorem a_g (b o n c i : Nat) (x : Int) (hi : i < n) (hm : n ≤ 9223372036854775807) (hlo : 91 ≤ x) (hhi : x ≤ 94) (h95 : (x == 95) = false) (h45 : (x == 45) = false) (w : World) (hx : w.cell? ⟨b, o + i, none⟩ = some (.int .u8 x)) :
    Calls Tryd.prog 108 #[.slice (some ⟨b, o, none⟩) n c, .int .i64 i] w fun e w' => e = .returned (.bool false) ∧ w = w' := by
  go_enter Tryd.func108, Tryd.ntmps108
  try simp only [List.append]
  go_wp2_with fail
  go_ret
  first | exact ⟨rfl, rfl⟩ | exact ⟨ret_b (by simp; omega), rfl⟩

set_option maxHeartbeats 1000000 in
set_option maxRecDepth 100000 in
theorem a_h (b o n c i : Nat) (x : Int) (hi : i < n) (hm : n ≤ 9223372036854775807) (hlo : 95 ≤ x) (hhi : x ≤ 95) (h95 : (x == 95) = true) (h45 : (x == 45) = false) (w : World) (hx : w.cell? ⟨b, o + i, none⟩ = some (.int .u8 x)) :
    Calls Tryd.prog 108 #[.slice (some ⟨b, o, none⟩) n c, .int .i64 i] w fun e w' => e = .returned (.bool true) ∧ w = w' := by
  go_enter Tryd.func108, Tryd.ntmps108
  try simp only [List.append]
  go_wp2_with fail
  go_ret
  first | exact ⟨rfl, rfl⟩ | exact ⟨ret_b (by simp; omega), rfl⟩

set_option maxHeartbeats 1000000 in
set_option maxRecDepth 100000 in
theorem a_i (b o n c i : Nat) (x : Int) (hi : i < n) (hm : n ≤ 9223372036854775807) (hlo : 96 ≤ x) (hhi : x ≤ 96) (h95 : (x == 95) = false) (h45 : (x == 45) = false) (w : World) (hx : w.cell? ⟨b, o + i, none⟩ = some (.int .u8 x)) :
    Calls Tryd.prog 108 #[.slice (some ⟨b, o, none⟩) n c, .int .i64 i] w fun e w' => e = .returned (.bool false) ∧ w = w' := by
  go_enter Tryd.func108, Tryd.ntmps108
  try simp only [List.append]
  go_wp2_with fail
  go_ret
  first | exact ⟨rfl, rfl⟩ | exact ⟨ret_b (by simp; omega), rfl⟩

set_option maxHeartbeats 1000000 in
set_option maxRecDepth 100000 in
theorem a_j (b o n c i : Nat) (x : Int) (hi : i < n) (hm : n ≤ 9223372036854775807) (hlo : 97 ≤ x) (hhi : x ≤ 122) (h95 : (x == 95) = false) (h45 : (x == 45) = false) (w : World) (hx : w.cell? ⟨b, o + i, none⟩ = some (.int .u8 x)) :
    Calls Tryd.prog 108 #[.slice (some ⟨b, o, none⟩) n c, .int .i64 i] w fun e w' => e = .returned (.bool true) ∧ w = w' := by
  go_enter Tryd.func108, Tryd.ntmps108
  try simp only [List.append]
  go_wp2_with fail
  go_ret
  first | exact ⟨rfl, rfl⟩ | exact ⟨ret_b (by simp; omega), rfl⟩

set_option maxHeartbeats 1000000 in
set_option maxRecDepth 100000 in
theorem a_k (b o n c i : Nat) (x : Int) (hi : i < n) (hm : n ≤ 9223372036854775807) (hlo : 123 ≤ x) (hhi : x ≤ 255) (h95 : (x == 95) = false) (h45 : (x == 45) = false) (w : World) (hx : w.cell? ⟨b, o + i, none⟩ = some (.int .u8 x)) :
    Calls Tryd.prog 108 #[.slice (some ⟨b, o, none⟩) n c, .int .i64 i] w fun e w' => e = .returned (.bool false) ∧ w = w' := by
  go_enter Tryd.func108, Tryd.ntmps108
  try simp only [List.append]
  go_wp2_with fail
  go_ret
  first | exact ⟨rfl, rfl⟩ | exact ⟨ret_b (by simp; omega), rfl⟩

theorem al_any (b o n c i : Nat) (x : Int) (hi : i < n) (hm : n ≤ 9223372036854775807) (hx0 : 0 ≤ x) (hx1 : x ≤ 255) (w : World) (hx : w.cell? ⟨b, o + i, none⟩ = some (.int .u8 x)) :
    Calls Tryd.prog 108 #[.slice (some ⟨b, o, none⟩) n c, .int .i64 i] w fun e w' => e = .returned (.bool (al x)) ∧ w = w' := by
  have nb : ∀ {a b : Int}, a ≠ b → (a == b) = false := fun h => by simpa using h
  by_cases ca_a : x ≤ 44
  · rw [show al x = false from by unfold al; rw [decide_eq_false_iff_not]; omega]; exact a_a b o n c i x hi hm (by omega) (by omega) (nb (by omega)) (nb (by omega)) w hx
  by_cases ca_b : x ≤ 45
  · rw [show al x = true from by unfold al; rw [decide_eq_true_eq]; omega]; exact a_b b o n c i x hi hm (by omega) (by omega) (nb (by omega)) (by simpa using (show x = 45 by omega)) w hx
  by_cases ca_c : x ≤ 47
  · rw [show al x = false from by unfold al; rw [decide_eq_false_iff_not]; omega]; exact a_c b o n c i x hi hm (by omega) (by omega) (nb (by omega)) (nb (by omega)) w hx
  by_cases ca_d : x ≤ 57
  · rw [show al x = true from by unfold al; rw [decide_eq_true_eq]; omega]; exact a_d b o n c i x hi hm (by omega) (by omega) (nb (by omega)) (nb (by omega)) w hx
  by_cases ca_e : x ≤ 64
  · rw [show al x = false from by unfold al; rw [decide_eq_false_iff_not]; omega]; exact a_e b o n c i x hi hm (by omega) (by omega) (nb (by omega)) (nb (by omega)) w hx
  by_cases ca_f : x ≤ 90
  · rw [show al x = true from by unfold al; rw [decide_eq_true_eq]; omega]; exact a_f b o n c i x hi hm (by omega) (by omega) (nb (by omega)) (nb (by omega)) w hx
  by_cases ca_g : x ≤ 94
  · rw [show al x = false from by unfold al; rw [decide_eq_false_iff_not]; omega]; exact a_g b o n c i x hi hm (by omega) (by omega) (nb (by omega)) (nb (by omega)) w hx
  by_cases ca_h : x ≤ 95
  · rw [show al x = true from by unfold al; rw [decide_eq_true_eq]; omega]; exact a_h b o n c i x hi hm (by omega) (by omega) (by simpa using (show x = 95 by omega)) (nb (by omega)) w hx
  by_cases ca_i : x ≤ 96
  · rw [show al x = false from by unfold al; rw [decide_eq_false_iff_not]; omega]; exact a_i b o n c i x hi hm (by omega) (by omega) (nb (by omega)) (nb (by omega)) w hx
  by_cases ca_j : x ≤ 122
  · rw [show al x = true from by unfold al; rw [decide_eq_true_eq]; omega]; exact a_j b o n c i x hi hm (by omega) (by omega) (nb (by omega)) (nb (by omega)) w hx
  · rw [show al x = false from by unfold al; rw [decide_eq_false_iff_not]; omega]; exact a_k b o n c i x hi hm (by omega) (by omega) (nb (by omega)) (nb (by omega)) w hx

end Go.Proofs.YtocbbekciphjgaaDoor.Al
