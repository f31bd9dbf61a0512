/- A version is scanned (impl.ScanVersion): the walks. Printed by genScH.py. -/
import Derived.Test.YtocbbekciphjgaaDoorScG
namespace Go.Proofs.YtocbbekciphjgaaDoor.Sc
open Go.RowKit Go.Proofs.YtocbbekciphjgaaDoor.Rdp Go.Proofs.YtocbbekciphjgaaDoor.Pa
set_option linter.unusedVariables false
set_option linter.unusedSimpArgs false
/-- In the midst of it. -/
structure Mid15 (p m1 m2 : Nat) (L : List Value) (v1 v2 y0 y1 y2 : Int) (w0 w : World) : Prop where
  pb : Bk w p 120 L
  c1 : w.cell? ⟨m1, 0, none⟩ = some (.int .i8 v1)
  c2 : w.cell? ⟨m2, 0, none⟩ = some (.int .i8 v2)
  lp : w0.heap.size + 2 ≤ p
  l1 : w0.heap.size + 2 ≤ m1
  l2 : w0.heap.size + 2 ≤ m2
  bel : Below w0.heap.size w0 w
  b4 : ∃ a b c, Bk w w0.heap.size 29 (tri a b c)
  b5 : ∃ cur, Bk w (w0.heap.size + 1) 31 cur ∧ cur.length = 9
  a24 : L[24]? = some (.int .i64 y0)
  a25 : L[25]? = some (.int .i64 y1)
  a26 : L[26]? = some (.int .i64 y2)
theorem Mid15.below {p m1 m2 : Nat} {L : List Value} {v1 v2 y0 y1 y2 : Int} {w0 w w' : World} (h : Mid15 p m1 m2 L v1 v2 y0 y1 y2 w0 w) (hb : Below w.heap.size w w') : Mid15 p m1 m2 L v1 v2 y0 y1 y2 w0 w' := by
  obtain ⟨a, b, c, h4⟩ := h.b4
  obtain ⟨cur, h5, h6⟩ := h.b5
  have hk : Kp [] w w' := Kp.of_below hb
  exact ⟨h.pb.kp hk (by simp), kp_cell hk h.c1 (by simp), kp_cell hk h.c2 (by simp), h.lp, h.l1, h.l2, h.bel.trans (hb.mono h.bel.size), ⟨a, b, c, h4.kp hk (by simp)⟩, ⟨cur, h5.kp hk (by simp), h6⟩, h.a24, h.a25, h.a26⟩
theorem Mid15.store4 {p m1 m2 : Nat} {L : List Value} {v1 v2 y0 y1 y2 : Int} {w0 w : World} (h : Mid15 p m1 m2 L v1 v2 y0 y1 y2 w0 w) (a b c : Int) :
    (Instr.storeAt 29 (.pointer (some ⟨w0.heap.size, 0, none⟩)) (.agg #[.int .i64 a, .int .i64 b, .int .i64 c])).run Tryd.prog w = .ok () (w.setCells w0.heap.size 0 (tri a b c)) ∧ Mid15 p m1 m2 L v1 v2 y0 y1 y2 w0 (w.setCells w0.heap.size 0 (tri a b c)) ∧ Bk (w.setCells w0.heap.size 0 (tri a b c)) w0.heap.size 29 (tri a b c) ∧ Kp [w0.heap.size] w (w.setCells w0.heap.size 0 (tri a b c)) := by
  obtain ⟨a1, b1, c1, h4⟩ := h.b4
  obtain ⟨cur, h5, h6⟩ := h.b5
  have lp := h.lp
  have l1 := h.l1
  have l2 := h.l2
  have hs := store_all (tri a b c) h4 rfl (by kernel_rfl) (by kernel_rfl)
  have hk : Kp [w0.heap.size] w (w.setCells w0.heap.size 0 (tri a b c)) := Kp.setCells _ (by simp) _ _ _ (Kp.refl _ _)
  exact ⟨hs.1, ⟨h.pb.kp hk (by simp; omega), kp_cell hk h.c1 (by simp; omega), kp_cell hk h.c2 (by simp; omega), h.lp, h.l1, h.l2, h.bel.trans (hk.below h.bel.size (by simp)), ⟨_, _, _, hs.2⟩, ⟨cur, h5.kp hk (by simp), h6⟩, h.a24, h.a25, h.a26⟩, hs.2, hk⟩
theorem Mid15.store5 {p m1 m2 : Nat} {L : List Value} {v1 v2 y0 y1 y2 : Int} {w0 w : World} (h : Mid15 p m1 m2 L v1 v2 y0 y1 y2 w0 w) :
    (Instr.storeAt 31 (.pointer (some ⟨w0.heap.size + 1, 0, none⟩)) (.agg (nine 0 0 0 0 0 0 0 0 0).toArray)).run Tryd.prog w = .ok () (w.setCells (w0.heap.size + 1) 0 (nine 0 0 0 0 0 0 0 0 0)) ∧ Mid15 p m1 m2 L v1 v2 y0 y1 y2 w0 (w.setCells (w0.heap.size + 1) 0 (nine 0 0 0 0 0 0 0 0 0)) ∧ Bk (w.setCells (w0.heap.size + 1) 0 (nine 0 0 0 0 0 0 0 0 0)) (w0.heap.size + 1) 31 (nine 0 0 0 0 0 0 0 0 0) ∧ Kp [w0.heap.size + 1] w (w.setCells (w0.heap.size + 1) 0 (nine 0 0 0 0 0 0 0 0 0)) := by
  obtain ⟨a1, b1, c1, h4⟩ := h.b4
  obtain ⟨cur, h5, h6⟩ := h.b5
  have lp := h.lp
  have l1 := h.l1
  have l2 := h.l2
  have hs := store_all (nine 0 0 0 0 0 0 0 0 0) h5 h6 (by kernel_rfl) (by kernel_rfl)
  have hk : Kp [w0.heap.size + 1] w (w.setCells (w0.heap.size + 1) 0 (nine 0 0 0 0 0 0 0 0 0)) := Kp.setCells _ (by simp) _ _ _ (Kp.refl _ _)
  exact ⟨hs.1, ⟨h.pb.kp hk (by simp; omega), kp_cell hk h.c1 (by simp; omega), kp_cell hk h.c2 (by simp; omega), h.lp, h.l1, h.l2, h.bel.trans (hk.below h.bel.size (by simp)), ⟨_, _, _, h4.kp hk (by simp)⟩, ⟨_, hs.2, rfl⟩, h.a24, h.a25, h.a26⟩, hs.2, hk⟩
def Sv (p : Nat) (w0 : World) (v1 v2 y0 y1 y2 : Int) : Nat → Value → World → Prop
  | 0, v, _ => v = .int .i8 v1
  | 1, v, _ => v = .int .i64 v1
  | 2, v, _ => v = .int .i8 v2
  | 3, v, _ => v = .int .i64 v2
  | 4, v, _ => v = .pointer (some ⟨p, 0, none⟩)
  | 5, v, _ => v = .agg #[.int .i64 y0, .int .i64 y1, .int .i64 y2]
  | 6, v, _ => v = .agg #[.int .i64 y0, .int .i64 y1, .int .i64 y2]
  | 7, v, _ => v = .agg (nine 0 0 0 0 0 0 0 0 0).toArray
  | 8, v, _ => v = .int .i64 v1
  | 9, v, _ => v = .int .i64 v2
  | 10, v, w => Bk w w0.heap.size 29 (tri y0 y1 y2)
  | 11, v, w => Bk w (w0.heap.size + 1) 31 (nine 0 0 0 0 0 0 0 0 0)
  | _, _, _ => True
theorem Sv_mono (p : Nat) (w0 : World) (v1 v2 y0 y1 y2 : Int) (i : Nat) (v : Value) (w w' : World) (hR : (Bk w w0.heap.size 29 (tri y0 y1 y2) → Bk w' w0.heap.size 29 (tri y0 y1 y2)) ∧ (Bk w (w0.heap.size + 1) 31 (nine 0 0 0 0 0 0 0 0 0) → Bk w' (w0.heap.size + 1) 31 (nine 0 0 0 0 0 0 0 0 0))) (h : Sv p w0 v1 v2 y0 y1 y2 i v w) : Sv p w0 v1 v2 y0 y1 y2 i v w' := by
  unfold Sv at h ⊢
  split at h <;> first | exact h | exact hR.1 h | exact hR.2 h
theorem wrap_small {x : Int} (h0 : 0 ≤ x) (h1 : x ≤ 99) : IntKind.i64.wrap x = x := by go_arith
theorem numv_small (T : List Int) (c n : Nat) (hn1 : 1 ≤ n) (hn2 : n ≤ 2) (hd : ∀ i, i < n → isDigit (S T (c + i)) = true) : 0 ≤ numv T c n ∧ numv T c n ≤ 99 := by
  have h0 := digit_cw (hd 0 (by omega))
  have hi : n = 1 ∨ n = 2 := by omega
  rcases hi with rfl | rfl
  · unfold numv numv; omega
  · have h1 := digit_cw (hd 1 (by omega))
    unfold numv numv numv; omega
set_option maxHeartbeats 4000000 in
set_option maxRecDepth 100000 in
theorem ver_ok (A : Option Addr) (T : List Int) (ci : Nat) (E : Value) (s n1 n2 : Nat) (w0 : World) (hE : w0.cell? ⟨2, 0, none⟩ = some E) (hEof : IsEof E) (hin : In w0 A T) (hasc : ∀ i, i < T.length → Ok1 (S T i)) (htl : T.length ≤ 2147483647) (htc : T.length ≤ ci) (hs : s ≤ 1000000)
    (hbl : ∀ i, i < s → S T (0 + i) = 32) (hn1 : 1 ≤ n1) (hn2 : n1 ≤ 2) (hd1 : ∀ i, i < n1 → isDigit (S T (0 + s + i)) = true) (hdot : S T (0 + s + n1) = 46) (hn3 : 1 ≤ n2) (hn4 : n2 ≤ 2) (hd2 : ∀ i, i < n2 → isDigit (S T (0 + s + n1 + 1 + i)) = true) (hend : isDigit (S T (0 + s + n1 + 1 + n2)) = false) :
    Calls Tryd.prog 15 #[.slice A T.length ci] w0 fun e w' => e = .returned (.tuple #[.int .i64 (numv T (0 + s) n1), .int .i64 (numv T (0 + s + n1 + 1) n2), .agg (tri (s + n1 + 1 + n2 : Nat) 0 (s + n1 + 1 + n2 : Nat)).toArray, .agg (nine 0 0 0 0 0 0 0 0 0).toArray]) ∧ Below w0.heap.size w0 w' := by
  have hg : 2 < w0.heap.size := World.block_lt_of_cell? w0 ⟨2, 0, none⟩ hE
  obtain ⟨wa, HWA⟩ : ∃ wa : World, Hid ((w0.alloc (.cells #[.int .i64 0, .int .i64 0, .int .i64 0] 29)).alloc (.cells #[.int .i64 0, .int .i64 0, .int .i64 0, .int .i64 0, .int .i64 0, .int .i64 0, .int .i64 0, .int .i64 0, .int .i64 0] 31) = wa) := ⟨_, rfl⟩
  have n4 : Bk (w0.alloc (.cells #[.int .i64 0, .int .i64 0, .int .i64 0] 29)) w0.heap.size 29 (tri 0 0 0) := Bk.new w0 (tri 0 0 0) 29
  have n5 : Bk wa (w0.heap.size + 1) 31 (nine 0 0 0 0 0 0 0 0 0) := by
    have := Bk.new (w0.alloc (.cells #[.int .i64 0, .int .i64 0, .int .i64 0] 29)) (nine 0 0 0 0 0 0 0 0 0) 31
    rw [show (w0.alloc (.cells #[.int .i64 0, .int .i64 0, .int .i64 0] 29)).heap.size = w0.heap.size + 1 by simp] at this
    rw [← HWA.out]
    exact this
  have n4' : Bk wa w0.heap.size 29 (tri 0 0 0) := by rw [← HWA.out]; exact n4.alloc _
  have hba : Below w0.heap.size w0 wa := by rw [← HWA.out]; exact ((Below.refl _ _).alloc (Nat.le_refl _) _).alloc (by simp) _
  have hsa : wa.heap.size = w0.heap.size + 2 := by rw [← HWA.out]; simp
  have hEa : wa.cell? ⟨2, 0, none⟩ = some E := by rw [hba.cell (p := ⟨2, 0, none⟩) hg]; exact hE
  have hina : In wa A T := by
    rcases hin with h | ⟨b, o, e, h1, h2⟩
    · exact .inl h
    · exact .inr ⟨b, o, e, by omega, fun i hi => by rw [hba.cell (p := ⟨b, o + i, none⟩) h1]; exact h2 i hi⟩
  have hsrc : ∀ b o, A = some ⟨b, o, none⟩ → T.length = 0 ∨ b < w0.heap.size := fun b o e => by
    rcases hin with h | ⟨b', o', e', h1, _⟩
    · exact .inl h
    · rw [e] at e'
      simp only [Option.some.injEq, Addr.mk.injEq] at e'
      exact .inr (by omega)
  have N4 := Lib.hid n4'
  have N5 := Lib.hid n5
  have HBA := Lib.hid hba
  have HEA := Lib.hid hEa
  have HINA := Lib.hid hina
  have HSRC := Lib.hid hsrc
  have HEE := Lib.hid hEof
  have HASC := Lib.hid hasc
  clear hE hEof hin n4 n5 n4' hba hEa hina hsrc hasc
  obtain ⟨va0, va1⟩ := numv_small T (0 + s) n1 hn1 hn2 hd1
  obtain ⟨vb0, vb1⟩ := numv_small T (0 + s + n1 + 1) n2 hn3 hn4 hd2
  obtain ⟨y1, hy1⟩ : ∃ y1, Hid ((numv T (0 + s) n1) = y1) := ⟨_, rfl⟩
  obtain ⟨y2, hy2⟩ : ∃ y2, Hid ((numv T (0 + s + n1 + 1) n2) = y2) := ⟨_, rfl⟩
  obtain ⟨nn, hnn⟩ : ∃ nn, Hid (s + n1 + 1 + n2 = nn) := ⟨_, rfl⟩
  rw [hy1.out] at va0 va1 ⊢
  rw [hy2.out] at vb0 vb1 ⊢
  rw [hnn.out]
  have HBL := Lib.hid hbl
  have HD1 := Lib.hid hd1
  have HDOT := Lib.hid hdot
  have HD2 := Lib.hid hd2
  have HEND := Lib.hid hend
  clear hbl hd1 hdot hd2 hend
  go_enter Tryd.func15, Tryd.ntmps15
  go_upto_region 1 with fail
  rw [HWA.out]
  go_wp2_with fail
  refine (started_any A T.length ci wa).mono ?_
  rintro e w1 ⟨p, r, q, rfl, hp, hpr, hpq, hrq, hbr, hbq, hbp, hbel⟩
  have hst := start_rdr A T ci E wa w1 p r q HEA.out HEE.out HINA.out (good_ascii HASC.out) htl htc hp hpr hpq hrq hbr hbq hbp hbel
  have hlp := hst.pb.lt
  obtain ⟨rl, rpos, ip, eof, RL, BL, stt, hlay, _⟩ := hst.ex
  have hlr : r < w1.heap.size := hlay.rb.lt
  have hlq : q < w1.heap.size := hlay.qb.lt
  clear hlay
  have hat := pStart_at (.slice A T.length ci) (.slice (some ⟨r, 0, none⟩) 0 512) (.slice (some ⟨q, 0, none⟩) 0 1536)
  obtain ⟨L, HL⟩ : ∃ L, Hid (pStart (.slice A T.length ci) (.slice (some ⟨r, 0, none⟩) 0 512) (.slice (some ⟨q, 0, none⟩) 0 1536) = L) := ⟨_, rfl⟩
  rw [HL.out] at hst hat
  have hs1 := hbel.size
  obtain ⟨w2, HW2⟩ : ∃ w2 : World, Hid ((w1.alloc (.cells #[.int .i8 0] 65)).alloc (.cells #[.int .i8 0] 65) = w2) := ⟨_, rfl⟩
  have hb2 : Below w1.heap.size w1 w2 := by rw [← HW2.out]; exact ((Below.refl _ _).alloc (Nat.le_refl _) _).alloc (by simp) _
  have hs2 : w2.heap.size = w1.heap.size + 2 := by rw [← HW2.out]; simp
  have k1 : w2.cell? ⟨w1.heap.size, 0, none⟩ = some (.int .i8 0) := by rw [← HW2.out]; simp
  have k2 : w2.cell? ⟨w1.heap.size + 1, 0, none⟩ = some (.int .i8 0) := by rw [← HW2.out]; simp
  have kf1 : w2.frozen? ⟨w1.heap.size, 0, none⟩ = false := by rw [← HW2.out]; simp
  have kf2 : w2.frozen? ⟨w1.heap.size + 1, 0, none⟩ = false := by rw [← HW2.out]; simp
  have hst2 := rdr_new hst hb2
  have hbel2 : Below w0.heap.size w0 w2 := (HBA.out.trans (hbel.mono (by omega))).trans (hb2.mono (by omega))
  have hf1 : Far ⟨r, q, A, T, ci, E⟩ p w1.heap.size := ⟨by unfold Kn.bs; simp; omega, by omega, fun o e => by have := HSRC.out _ o e; show T.length = 0; omega⟩
  have hf2 : Far ⟨r, q, A, T, ci, E⟩ p (w1.heap.size + 1) := ⟨by unfold Kn.bs; simp; omega, by omega, fun o e => by have := HSRC.out _ o e; show T.length = 0; omega⟩
  have hN4 : Bk w2 w0.heap.size 29 (tri 0 0 0) := (N4.out.kp (Kp.of_below (ps := []) hbel) (by simp)).kp (Kp.of_below (ps := []) hb2) (by simp)
  have hN5 : Bk w2 (w0.heap.size + 1) 31 (nine 0 0 0 0 0 0 0 0 0) := (N5.out.kp (Kp.of_below (ps := []) hbel) (by simp)).kp (Kp.of_below (ps := []) hb2) (by simp)
  have HN4 := Lib.hid hN4
  have HN5 := Lib.hid hN5
  have HBEL := Lib.hid hbel2
  have hv := zver_any p (.pointer (some ⟨w1.heap.size, 0, none⟩)) (.pointer (some ⟨w1.heap.size + 1, 0, none⟩)) true L 0 0 0 w2 _ hst2.pb hat.a24 hat.a25 hat.a26 (blanks_any ⟨r, q, A, T, ci, E⟩ p 0 0 0 0 0 0 s n1 n2 w1.heap.size (w1.heap.size + 1) 0 0 0 0 0 0 L w2 (round_ascii _ p HASC.out) hst2 hat.a24 hat.a26 hat.a19 (by omega) (by omega) hs HBL.out hn1 hn2 HD1.out HDOT.out hn3 hn4 HD2.out HEND.out k1 kf1 k2 kf2 (by omega) hf1 hf2 (by omega))
  have hsl : w0.heap.size ∉ w1.heap.size :: (w1.heap.size + 1) :: (⟨r, q, A, T, ci, E⟩ : Kn).bs p := by unfold Kn.bs; simp; omega
  have hsl5 : w0.heap.size + 1 ∉ w1.heap.size :: (w1.heap.size + 1) :: (⟨r, q, A, T, ci, E⟩ : Kn).bs p := by unfold Kn.bs; simp; omega
  have hall : ∀ b, b ∈ w1.heap.size :: (w1.heap.size + 1) :: (⟨r, q, A, T, ci, E⟩ : Kn).bs p → w0.heap.size ≤ b := by unfold Kn.bs; intro b hb; simp at hb; omega
  have HSL := Lib.hid hsl
  have HSL5 := Lib.hid hsl5
  have HALL := Lib.hid hall
  clear hsl hsl5 hall
  have HV := Lib.hid hv
  have HPB := Lib.hid hst2.pb
  have HAT := Lib.hid hat
  clear hv hst hst2 hat hbr hbq hbp hbel hb2 k1 k2 kf1 kf2 hf1 hf2 hN4 hN5 hbel2
  go_wp2_with fail
  rw [HW2.out]
  refine HV.out.mono ?_
  rintro e w3 ⟨rfl, ⟨⟨u3, bp3, bl3, L3, hr3, hu3, h243, h263, h193, ho3⟩, hk3⟩, k1, k2⟩
  rw [Nat.zero_add, hnn.out] at h243 h263
  have k1' : w3.cell? ⟨w1.heap.size, 0, none⟩ = some (.int .i8 y1) := by rw [← hy1.out]; exact k1
  have k2' : w3.cell? ⟨w1.heap.size + 1, 0, none⟩ = some (.int .i8 y2) := by rw [← hy2.out]; exact k2
  have hm : Mid15 p w1.heap.size (w1.heap.size + 1) L3 y1 y2 (nn : Nat) 0 (nn : Nat) w0 w3 := by
    refine ⟨hr3.pb, k1', k2', by omega, by omega, by omega, HBEL.out.trans (hk3.below HBEL.out.size HALL.out), ⟨0, 0, 0, HN4.out.kp hk3 HSL.out⟩, ⟨_, HN5.out.kp hk3 HSL5.out, rfl⟩, h243, (ho3 25 (by unfold rdOff; omega) (by omega) (by omega) (by omega)).trans HAT.out.a25, h263⟩
  have HM := Lib.hid hm
  clear k1 k2 k1' k2' hm hr3 h243 h263 h193 ho3 hk3 HV HW2 HPB HAT
  go_upto_region 5 with fail
  have hv1 : IntKind.i64.wrap y1 = y1 := wrap_small va0 va1
  have hv2 : IntKind.i64.wrap y2 = y2 := wrap_small vb0 vb1
  refine Sp.region_specs (by kernel_rfl) _ (by kernel_rfl) (by kernel_rfl) (by kernel_rfl) rfl (by kernel_rfl) (Sv p w0 y1 y2 (nn : Nat) 0 (nn : Nat)) (Mid15 p w1.heap.size (w1.heap.size + 1) L3 y1 y2 (nn : Nat) 0 (nn : Nat) w0) (fun w w' => (Bk w w0.heap.size 29 (tri (nn : Nat) 0 (nn : Nat)) → Bk w' w0.heap.size 29 (tri (nn : Nat) 0 (nn : Nat))) ∧ (Bk w (w0.heap.size + 1) 31 (nine 0 0 0 0 0 0 0 0 0) → Bk w' (w0.heap.size + 1) 31 (nine 0 0 0 0 0 0 0 0 0))) (HM.out.below ⟨rfl, rfl, rfl, Nat.le_refl _, fun _ _ => rfl⟩) (fun i v w w' hR => Sv_mono p w0 y1 y2 (nn : Nat) 0 (nn : Nat) i v w w' hR) ?_ ?_
  · clear HWA HBA HEA HINA HSRC HEE HASC HN4 HN5 N4 N5 HBEL HM HBL HD1 HDOT HD2 HEND HSL HSL5 HALL
    intro i hi a w4 F hI
    have hcases : i = 0 ∨ i = 1 ∨ i = 2 ∨ i = 3 ∨ i = 4 ∨ i = 5 ∨ i = 6 ∨ i = 7 ∨ i = 8 ∨ i = 9 ∨ i = 10 ∨ i = 11 := by have hi' : i < 12 := hi; omega
    rcases hcases with rfl | rfl | rfl | rfl | rfl | rfl | rfl | rfl | rfl | rfl | rfl | rfl
    · have d7 : a.tmps.getD 7 undef = .pointer (some ⟨w1.heap.size, 0, none⟩) := F.out 7 (by kernel_rfl)
      exact Sp.sp_value rfl (Sp.wanted_none rfl) (v := .int .i8 y1) (w' := w4) (by simp [execOp, Act.eval, d7, Sp.gd d7, hI.c1, go_sem]) hI ⟨fun h => h, fun h => h⟩ rfl
    · have d17 : a.tmps.getD 17 undef = .int .i8 y1 := F.val 0 17 (by kernel_rfl) (by rfl)
      exact Sp.sp_value rfl (Sp.wanted_none rfl) (v := .int .i64 y1) (w' := w4) (by simp [execOp, Act.eval, d17, Sp.gd d17, go_sem]; try exact hv1) hI ⟨fun h => h, fun h => h⟩ rfl
    · have d8 : a.tmps.getD 8 undef = .pointer (some ⟨(w1.heap.size + 1), 0, none⟩) := F.out 8 (by kernel_rfl)
      exact Sp.sp_value rfl (Sp.wanted_none rfl) (v := .int .i8 y2) (w' := w4) (by simp [execOp, Act.eval, d8, Sp.gd d8, hI.c2, go_sem]) hI ⟨fun h => h, fun h => h⟩ rfl
    · have d19 : a.tmps.getD 19 undef = .int .i8 y2 := F.val 2 19 (by kernel_rfl) (by rfl)
      exact Sp.sp_value rfl (Sp.wanted_none rfl) (v := .int .i64 y2) (w' := w4) (by simp [execOp, Act.eval, d19, Sp.gd d19, hv2, go_sem]) hI ⟨fun h => h, fun h => h⟩ rfl
    · have d6 : a.tmps.getD 6 undef = .pointer (some ⟨p, 0, none⟩) := F.out 6 (by kernel_rfl)
      exact Sp.sp_value rfl (Sp.wanted_none rfl) (v := .pointer (some ⟨p, 0, none⟩)) (w' := w4) (by simp [execOp, Act.eval, d6, Sp.gd d6, go_sem]) hI ⟨fun h => h, fun h => h⟩ rfl
    · have d21 : a.tmps.getD 21 undef = .pointer (some ⟨p, 0, none⟩) := F.val 4 21 (by kernel_rfl) (by rfl)
      refine Sp.sp_call Tryd.func37 (by kernel_rfl) rfl #[.pointer (some ⟨p, 0, none⟩)] rfl (Sp.wanted_none rfl) rfl (by simp only [List.map_toArray, List.map_cons, List.map_nil, Act.eval, d21]) ?_
      refine (pmark_any p L3 nn 0 nn _ hI.pb hI.a24 hI.a25 hI.a26).mono ?_
      rintro e w3 ⟨rfl, hb3⟩
      exact ⟨_, rfl, hI.below hb3, ⟨fun h => h.kp (Kp.of_below (ps := []) hb3) (by simp), fun h => h.kp (Kp.of_below (ps := []) hb3) (by simp)⟩, rfl⟩
    · have d22 : a.tmps.getD 22 undef = .agg #[.int .i64 (nn : Nat), .int .i64 0, .int .i64 (nn : Nat)] := F.val 5 22 (by kernel_rfl) (by rfl)
      refine Sp.sp_call Tryd.func36 (by kernel_rfl) rfl #[.agg #[.int .i64 (nn : Nat), .int .i64 0, .int .i64 (nn : Nat)]] rfl (Sp.wanted_none rfl) rfl (by simp only [List.map_toArray, List.map_cons, List.map_nil, Act.eval, d22]) ?_
      refine (mark_any _ _ _ _).mono ?_
      rintro e w3 ⟨rfl, hb3⟩
      exact ⟨_, rfl, hI.below hb3, ⟨fun h => h.kp (Kp.of_below (ps := []) hb3) (by simp), fun h => h.kp (Kp.of_below (ps := []) hb3) (by simp)⟩, rfl⟩
    · exact Sp.sp_value rfl (Sp.wanted_none rfl) (v := .agg (nine 0 0 0 0 0 0 0 0 0).toArray) (w' := w4) (by simp [execOp, Act.eval, nine, go_sem]) hI ⟨fun h => h, fun h => h⟩ rfl
    · have d18 : a.tmps.getD 18 undef = .int .i64 y1 := F.val 1 18 (by kernel_rfl) (by rfl)
      exact Sp.sp_value rfl (Sp.wanted_none rfl) (v := .int .i64 y1) (w' := w4) (by simp [execOp, Act.eval, d18, Sp.gd d18, go_sem]) hI ⟨fun h => h, fun h => h⟩ rfl
    · have d20 : a.tmps.getD 20 undef = .int .i64 y2 := F.val 3 20 (by kernel_rfl) (by rfl)
      exact Sp.sp_value rfl (Sp.wanted_none rfl) (v := .int .i64 y2) (w' := w4) (by simp [execOp, Act.eval, d20, Sp.gd d20, go_sem]) hI ⟨fun h => h, fun h => h⟩ rfl
    · have d4 : a.tmps.getD 4 undef = .pointer (some ⟨w0.heap.size, 0, none⟩) := F.out 4 (by kernel_rfl)
      have d23 : a.tmps.getD 23 undef = .agg #[.int .i64 (nn : Nat), .int .i64 0, .int .i64 (nn : Nat)] := F.val 6 23 (by kernel_rfl) (by rfl)
      have hst := hI.store4 nn 0 nn
      have g1 := Sp.gd d4
      have g2 := Sp.gd d23
      have hst1 := hst.1
      exact Sp.sp_store rfl (Sp.wanted_none rfl) (by simp [execOp, Act.eval, g1, g2, hst1]) hst.2.1 ⟨fun _ => hst.2.2.1, fun h => h.kp hst.2.2.2 (by simp)⟩ hst.2.2.1
    · have d5 : a.tmps.getD 5 undef = .pointer (some ⟨(w0.heap.size + 1), 0, none⟩) := F.out 5 (by kernel_rfl)
      have d24 : a.tmps.getD 24 undef = .agg (nine 0 0 0 0 0 0 0 0 0).toArray := F.val 7 24 (by kernel_rfl) (by rfl)
      have hst := hI.store5
      have g1 := Sp.gd d5
      have g2 := Sp.gd d24
      have hst1 := hst.1
      exact Sp.sp_store rfl (Sp.wanted_none rfl) (by simp [execOp, Act.eval, g1, g2, hst1]) hst.2.1 ⟨fun h => h.kp hst.2.2.2 (by simp), fun _ => hst.2.2.1⟩ hst.2.2.1
  · intro val w4 hI hS
    have v8 : val 8 = .int .i64 y1 := hS 8 (by decide)
    have v9 : val 9 = .int .i64 y2 := hS 9 (by decide)
    have h10 : Bk w4 w0.heap.size 29 (tri (nn : Nat) 0 (nn : Nat)) := hS 10 (by decide)
    have h11 : Bk w4 (w0.heap.size + 1) 31 (nine 0 0 0 0 0 0 0 0 0) := hS 11 (by decide)
    simp only [Sp.setAll, List.setIfInBounds_toArray, List.set_cons_zero, List.set_cons_succ, v8, v9]
    clear hS
    have e0 := (at_ h10 0 rfl).1
    have e1 := (at_ h10 1 rfl).1
    have e2 := (at_ h10 2 rfl).1
    have c0 := (at_ h11 0 rfl).1
    have c1 := (at_ h11 1 rfl).1
    have c2 := (at_ h11 2 rfl).1
    have c3 := (at_ h11 3 rfl).1
    have c4 := (at_ h11 4 rfl).1
    have c5 := (at_ h11 5 rfl).1
    have c6 := (at_ h11 6 rfl).1
    have c7 := (at_ h11 7 rfl).1
    have c8 := (at_ h11 8 rfl).1
    have HBL4 := Lib.hid hI.bel
    clear hI h10 h11 HM HWA HBA HEA HINA HSRC HEE HASC HN4 HN5 N4 N5 HBEL HBL HD1 HDOT HD2 HEND HSL HSL5 HALL
    go_wp2_with fail
    (try simp only [Exit.inBlock, Exit.then])
    refine bodyPost_ret (by simp [results, Tryd.results15, e0, e1, e2, c0, c1, c2, c3, c4, c5, c6, c7, c8, go_sem]; try rfl) rfl ?_
    exact ⟨rfl, HBL4.out⟩
set_option maxHeartbeats 4000000 in
set_option maxRecDepth 100000 in
theorem ver_bad (A : Option Addr) (T : List Int) (ci : Nat) (E : Value) (s n1 : Nat) (w0 : World) (hE : w0.cell? ⟨2, 0, none⟩ = some E) (hEof : IsEof E) (hin : In w0 A T) (hasc : ∀ i, i < T.length → Ok1 (S T i)) (htl : T.length ≤ 2147483647) (htc : T.length ≤ ci) (hs : s ≤ 1000000)
    (hbl : ∀ i, i < s → S T (0 + i) = 32) (hn1 : 1 ≤ n1) (hn2 : n1 ≤ 2) (hd1 : ∀ i, i < n1 → isDigit (S T (0 + s + i)) = true) (hdot : S T (0 + s + n1) ≠ 46) (hend : isDigit (S T (0 + s + n1)) = false) :
    Calls Tryd.prog 15 #[.slice A T.length ci] w0 fun e w' => (∃ z2 z3 a0 a1 a2 b0 b1 b2 : Int, e = .returned (.tuple #[.int .i64 0, .int .i64 0, .agg (tri 0 0 0).toArray, .agg (nine 2 a0 a1 a2 b0 b1 b2 z2 z3).toArray])) ∧ Below w0.heap.size w0 w' := by
  have hg : 2 < w0.heap.size := World.block_lt_of_cell? w0 ⟨2, 0, none⟩ hE
  obtain ⟨wa, HWA⟩ : ∃ wa : World, Hid ((w0.alloc (.cells #[.int .i64 0, .int .i64 0, .int .i64 0] 29)).alloc (.cells #[.int .i64 0, .int .i64 0, .int .i64 0, .int .i64 0, .int .i64 0, .int .i64 0, .int .i64 0, .int .i64 0, .int .i64 0] 31) = wa) := ⟨_, rfl⟩
  have n4 : Bk (w0.alloc (.cells #[.int .i64 0, .int .i64 0, .int .i64 0] 29)) w0.heap.size 29 (tri 0 0 0) := Bk.new w0 (tri 0 0 0) 29
  have n5 : Bk wa (w0.heap.size + 1) 31 (nine 0 0 0 0 0 0 0 0 0) := by
    have := Bk.new (w0.alloc (.cells #[.int .i64 0, .int .i64 0, .int .i64 0] 29)) (nine 0 0 0 0 0 0 0 0 0) 31
    rw [show (w0.alloc (.cells #[.int .i64 0, .int .i64 0, .int .i64 0] 29)).heap.size = w0.heap.size + 1 by simp] at this
    rw [← HWA.out]
    exact this
  have n4' : Bk wa w0.heap.size 29 (tri 0 0 0) := by rw [← HWA.out]; exact n4.alloc _
  have hba : Below w0.heap.size w0 wa := by rw [← HWA.out]; exact ((Below.refl _ _).alloc (Nat.le_refl _) _).alloc (by simp) _
  have hsa : wa.heap.size = w0.heap.size + 2 := by rw [← HWA.out]; simp
  have hEa : wa.cell? ⟨2, 0, none⟩ = some E := by rw [hba.cell (p := ⟨2, 0, none⟩) hg]; exact hE
  have hina : In wa A T := by
    rcases hin with h | ⟨b, o, e, h1, h2⟩
    · exact .inl h
    · exact .inr ⟨b, o, e, by omega, fun i hi => by rw [hba.cell (p := ⟨b, o + i, none⟩) h1]; exact h2 i hi⟩
  have hsrc : ∀ b o, A = some ⟨b, o, none⟩ → T.length = 0 ∨ b < w0.heap.size := fun b o e => by
    rcases hin with h | ⟨b', o', e', h1, _⟩
    · exact .inl h
    · rw [e] at e'
      simp only [Option.some.injEq, Addr.mk.injEq] at e'
      exact .inr (by omega)
  have N4 := Lib.hid n4'
  have N5 := Lib.hid n5
  have HBA := Lib.hid hba
  have HEA := Lib.hid hEa
  have HINA := Lib.hid hina
  have HSRC := Lib.hid hsrc
  have HEE := Lib.hid hEof
  have HASC := Lib.hid hasc
  clear hE hEof hin n4 n5 n4' hba hEa hina hsrc hasc
  have HBL := Lib.hid hbl
  have HD1 := Lib.hid hd1
  have HDOT := Lib.hid hdot
  have HEND := Lib.hid hend
  clear hbl hd1 hdot hend
  go_enter Tryd.func15, Tryd.ntmps15
  go_upto_region 1 with fail
  rw [HWA.out]
  go_wp2_with fail
  refine (started_any A T.length ci wa).mono ?_
  rintro e w1 ⟨p, r, q, rfl, hp, hpr, hpq, hrq, hbr, hbq, hbp, hbel⟩
  have hst := start_rdr A T ci E wa w1 p r q HEA.out HEE.out HINA.out (good_ascii HASC.out) htl htc hp hpr hpq hrq hbr hbq hbp hbel
  have hlp := hst.pb.lt
  obtain ⟨rl, rpos, ip, eof, RL, BL, stt, hlay, _⟩ := hst.ex
  have hlr : r < w1.heap.size := hlay.rb.lt
  have hlq : q < w1.heap.size := hlay.qb.lt
  clear hlay
  have hat := pStart_at (.slice A T.length ci) (.slice (some ⟨r, 0, none⟩) 0 512) (.slice (some ⟨q, 0, none⟩) 0 1536)
  obtain ⟨L, HL⟩ : ∃ L, Hid (pStart (.slice A T.length ci) (.slice (some ⟨r, 0, none⟩) 0 512) (.slice (some ⟨q, 0, none⟩) 0 1536) = L) := ⟨_, rfl⟩
  rw [HL.out] at hst hat
  have hs1 := hbel.size
  obtain ⟨w2, HW2⟩ : ∃ w2 : World, Hid ((w1.alloc (.cells #[.int .i8 0] 65)).alloc (.cells #[.int .i8 0] 65) = w2) := ⟨_, rfl⟩
  have hb2 : Below w1.heap.size w1 w2 := by rw [← HW2.out]; exact ((Below.refl _ _).alloc (Nat.le_refl _) _).alloc (by simp) _
  have hs2 : w2.heap.size = w1.heap.size + 2 := by rw [← HW2.out]; simp
  have k1 : w2.cell? ⟨w1.heap.size, 0, none⟩ = some (.int .i8 0) := by rw [← HW2.out]; simp
  have k2 : w2.cell? ⟨w1.heap.size + 1, 0, none⟩ = some (.int .i8 0) := by rw [← HW2.out]; simp
  have kf1 : w2.frozen? ⟨w1.heap.size, 0, none⟩ = false := by rw [← HW2.out]; simp
  have kf2 : w2.frozen? ⟨w1.heap.size + 1, 0, none⟩ = false := by rw [← HW2.out]; simp
  have hst2 := rdr_new hst hb2
  have hbel2 : Below w0.heap.size w0 w2 := (HBA.out.trans (hbel.mono (by omega))).trans (hb2.mono (by omega))
  have hf1 : Far ⟨r, q, A, T, ci, E⟩ p w1.heap.size := ⟨by unfold Kn.bs; simp; omega, by omega, fun o e => by have := HSRC.out _ o e; show T.length = 0; omega⟩
  have hf2 : Far ⟨r, q, A, T, ci, E⟩ p (w1.heap.size + 1) := ⟨by unfold Kn.bs; simp; omega, by omega, fun o e => by have := HSRC.out _ o e; show T.length = 0; omega⟩
  have hN4 : Bk w2 w0.heap.size 29 (tri 0 0 0) := (N4.out.kp (Kp.of_below (ps := []) hbel) (by simp)).kp (Kp.of_below (ps := []) hb2) (by simp)
  have hN5 : Bk w2 (w0.heap.size + 1) 31 (nine 0 0 0 0 0 0 0 0 0) := (N5.out.kp (Kp.of_below (ps := []) hbel) (by simp)).kp (Kp.of_below (ps := []) hb2) (by simp)
  have HN4 := Lib.hid hN4
  have HN5 := Lib.hid hN5
  have HBEL := Lib.hid hbel2
  have hv := zver_any p (.pointer (some ⟨w1.heap.size, 0, none⟩)) (.pointer (some ⟨w1.heap.size + 1, 0, none⟩)) false L 0 0 0 w2 _ hst2.pb hat.a24 hat.a25 hat.a26 (bad_any ⟨r, q, A, T, ci, E⟩ p 0 0 0 0 0 0 s n1 w1.heap.size (w1.heap.size + 1) 0 0 0 0 0 0 L w2 (round_ascii _ p HASC.out) hst2 hat.a24 hat.a26 hat.a19 (by omega) (by omega) hs HBL.out hn1 hn2 HD1.out HDOT.out HEND.out hat.cells ⟨0, hat.a25⟩ k1 kf1 k2 kf2 (by omega) hf1 hf2 (by omega))
  have hsl : w0.heap.size ∉ w1.heap.size :: (w1.heap.size + 1) :: (⟨r, q, A, T, ci, E⟩ : Kn).bs p := by unfold Kn.bs; simp; omega
  have hsl5 : w0.heap.size + 1 ∉ w1.heap.size :: (w1.heap.size + 1) :: (⟨r, q, A, T, ci, E⟩ : Kn).bs p := by unfold Kn.bs; simp; omega
  have hall : ∀ b, b ∈ w1.heap.size :: (w1.heap.size + 1) :: (⟨r, q, A, T, ci, E⟩ : Kn).bs p → w0.heap.size ≤ b := by unfold Kn.bs; intro b hb; simp at hb; omega
  have HSL := Lib.hid hsl
  have HSL5 := Lib.hid hsl5
  have HALL := Lib.hid hall
  clear hsl hsl5 hall
  have HV := Lib.hid hv
  have HPB := Lib.hid hst2.pb
  have HAT := Lib.hid hat
  clear hv hst hst2 hat hbr hbq hbp hbel hb2 k1 k2 kf1 kf2 hf1 hf2 hN4 hN5 hbel2
  go_wp2_with fail
  rw [HW2.out]
  refine HV.out.mono ?_
  rintro e w3 ⟨rfl, L3, hb3, hc3, h03, hk3⟩
  have hbel3 := HBEL.out.trans (hk3.below HBEL.out.size HALL.out)
  have h43 := HN4.out.kp hk3 HSL.out
  have h53 := HN5.out.kp hk3 HSL5.out
  have HB3 := Lib.hid hb3
  have HC3 := Lib.hid hc3
  have H03 := Lib.hid h03
  have HBEL3 := Lib.hid hbel3
  have H43 := Lib.hid h43
  have H53 := Lib.hid h53
  clear hb3 hc3 h03 hk3 hbel3 h43 h53 HV HW2 HPB HAT
  go_wp2_with fail
  refine (fault_full p L3 w3 HB3.out HC3.out H03.out).mono ?_
  rintro e w4 ⟨⟨z2, z3, a0, a1, a2, b0, b1, b2, rfl⟩, hb4⟩
  have hk4 : Kp [] w3 w4 := Kp.of_below hb4
  have h44 := H43.out.kp hk4 (by simp)
  have h54 := H53.out.kp hk4 (by simp)
  have HBEL4 := Lib.hid (HBEL3.out.trans (hb4.mono HBEL3.out.size))
  obtain ⟨e0, f0⟩ := at_ h44 0 rfl
  obtain ⟨e1, f1⟩ := at_ h44 1 rfl
  obtain ⟨e2, f2⟩ := at_ h44 2 rfl
  obtain ⟨c0, g0⟩ := at_ h54 0 rfl
  obtain ⟨c1, g1⟩ := at_ h54 1 rfl
  obtain ⟨c2, g2⟩ := at_ h54 2 rfl
  obtain ⟨c3, g3⟩ := at_ h54 3 rfl
  obtain ⟨c4, g4⟩ := at_ h54 4 rfl
  obtain ⟨c5, g5⟩ := at_ h54 5 rfl
  obtain ⟨c6, g6⟩ := at_ h54 6 rfl
  obtain ⟨c7, g7⟩ := at_ h54 7 rfl
  obtain ⟨c8, g8⟩ := at_ h54 8 rfl
  have HH4 := Lib.hid h44
  have HH5 := Lib.hid h54
  clear h44 h54 hb4 hk4
  unfold nine
  go_wp2_with fail
  clear e0 e1 e2 f0 f1 f2 c0 c1 c2 c3 c4 c5 c6 c7 c8 g0 g1 g2 g3 g4 g5 g6 g7 g8
  have ne1 : w0.heap.size ≠ w0.heap.size + 1 := by omega
  have ne2 : w0.heap.size + 1 ≠ w0.heap.size := by omega
  have h4 := ((((((((((((HH4.out.set 0 (.int .i64 0)).set 1 (.int .i64 0)).set 2 (.int .i64 0)).other (w0.heap.size + 1) 0 (.int .i64 2) ne1).other (w0.heap.size + 1) 1 (.int .i64 a0) ne1).other (w0.heap.size + 1) 2 (.int .i64 a1) ne1).other (w0.heap.size + 1) 3 (.int .i64 a2) ne1).other (w0.heap.size + 1) 4 (.int .i64 b0) ne1).other (w0.heap.size + 1) 5 (.int .i64 b1) ne1).other (w0.heap.size + 1) 6 (.int .i64 b2) ne1).other (w0.heap.size + 1) 7 (.int .i64 z2) ne1).other (w0.heap.size + 1) 8 (.int .i64 z3) ne1)
  have h5 := ((((((((((((HH5.out.other _ 0 (.int .i64 0) ne2).other _ 1 (.int .i64 0) ne2).other _ 2 (.int .i64 0) ne2).set 0 (.int .i64 2)).set 1 (.int .i64 a0)).set 2 (.int .i64 a1)).set 3 (.int .i64 a2)).set 4 (.int .i64 b0)).set 5 (.int .i64 b1)).set 6 (.int .i64 b2)).set 7 (.int .i64 z2)).set 8 (.int .i64 z3))
  have hbf := ((((((((((((HBEL4.out.setCell (p := ⟨w0.heap.size, 0, none⟩) (Nat.le_refl _) (.int .i64 0)).setCell (p := ⟨w0.heap.size, 1, none⟩) (Nat.le_refl _) (.int .i64 0)).setCell (p := ⟨w0.heap.size, 2, none⟩) (Nat.le_refl _) (.int .i64 0)).setCell (p := ⟨w0.heap.size + 1, 0, none⟩) (Nat.le_succ _) (.int .i64 2)).setCell (p := ⟨w0.heap.size + 1, 1, none⟩) (Nat.le_succ _) (.int .i64 a0)).setCell (p := ⟨w0.heap.size + 1, 2, none⟩) (Nat.le_succ _) (.int .i64 a1)).setCell (p := ⟨w0.heap.size + 1, 3, none⟩) (Nat.le_succ _) (.int .i64 a2)).setCell (p := ⟨w0.heap.size + 1, 4, none⟩) (Nat.le_succ _) (.int .i64 b0)).setCell (p := ⟨w0.heap.size + 1, 5, none⟩) (Nat.le_succ _) (.int .i64 b1)).setCell (p := ⟨w0.heap.size + 1, 6, none⟩) (Nat.le_succ _) (.int .i64 b2)).setCell (p := ⟨w0.heap.size + 1, 7, none⟩) (Nat.le_succ _) (.int .i64 z2)).setCell (p := ⟨w0.heap.size + 1, 8, none⟩) (Nat.le_succ _) (.int .i64 z3))
  have e0 := at_ h4 0 rfl
  have e1 := at_ h4 1 rfl
  have e2 := at_ h4 2 rfl
  have c0 := at_ h5 0 rfl
  have c1 := at_ h5 1 rfl
  have c2 := at_ h5 2 rfl
  have c3 := at_ h5 3 rfl
  have c4 := at_ h5 4 rfl
  have c5 := at_ h5 5 rfl
  have c6 := at_ h5 6 rfl
  have c7 := at_ h5 7 rfl
  have c8 := at_ h5 8 rfl
  (try simp only [Exit.inBlock, Exit.then])
  refine bodyPost_ret (by simp [results, Tryd.results15, e0.1, e1.1, e2.1, c0.1, c1.1, c2.1, c3.1, c4.1, c5.1, c6.1, c7.1, c8.1, go_sem]; try rfl) rfl ?_
  exact ⟨⟨z2, z3, a0, a1, a2, b0, b1, b2, rfl⟩, hbf⟩
end Go.Proofs.YtocbbekciphjgaaDoor.Sc
