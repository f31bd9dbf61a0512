/- Where a directive is added (yaml_emitter_append_tag_directive): two rows of bytes and the copy's cell are made, in whatever order. -/
import Derived.Test.YtccmflnkhabilaaTgE
import Derived.StillTail
import Derived.Deep.QuietTactic
import Derived.BigQuiet
import Derived.Outline
import Derived.RowKit3
import Derived.StillTactics
namespace Go.Proofs.Ytccmflnkhabilaa.Tg
open Go.RowKit
set_option linter.unusedVariables false
set_option linter.unusedSimpArgs false
def S8 (q n1 c1 n2 c2 : Nat) (A1 A2 : Option Addr) : Nat → Value → World → Prop
  | 0, v, _ => v = .pointer (some ⟨q, 0, none⟩)
  | 1, v, _ => v = .pointer (some ⟨q, 0, none⟩)
  | 2, v, _ => v = .pointer (some ⟨q, 0, none⟩)
  | 3, v, _ => v = .slice A1 n1 c1
  | 4, v, _ => v = .int .i64 (n1 : Int)
  | 5, v, w => ∃ b, v = .slice (some ⟨b, 0, none⟩) n1 n1
  | 6, v, _ => v = .pointer (some ⟨q, 0, none⟩)
  | 7, v, _ => v = .pointer (some ⟨q, 0, none⟩)
  | 8, v, _ => v = .pointer (some ⟨q, 1, none⟩)
  | 9, v, _ => v = .slice A2 n2 c2
  | 10, v, _ => v = .int .i64 (n2 : Int)
  | 11, v, w => ∃ b, v = .slice (some ⟨b, 0, none⟩) n2 n2
  | 13, v, w => ∃ m, v = .pointer (some ⟨m, 0, none⟩)
  | _, _, _ => True
def S11 (p k cap b1 n1 b2 n2 m : Nat) (A : Option Addr) : Nat → Value → World → Prop
  | 0, v, _ => v = .pointer (some ⟨p, 0, none⟩)
  | 1, v, _ => v = .pointer (some ⟨p, 0, none⟩)
  | 2, v, _ => v = .pointer (some ⟨p, 0, none⟩)
  | 3, v, _ => v = .pointer (some ⟨p, 20, none⟩)
  | 4, v, _ => v = .slice A k cap
  | 5, v, _ => v = .agg #[.slice (some ⟨b1, 0, none⟩) n1 n1, .slice (some ⟨b2, 0, none⟩) n2 n2]
  | 6, v, w => ∃ b, v = .slice (some ⟨b, 0, none⟩) 1 1
  | 7, v, w => ∃ g c, v = .slice (some ⟨g, 0, none⟩) (k + 1) c
  | 8, v, _ => v = .pointer (some ⟨p, 0, none⟩)
  | 9, v, _ => v = .pointer (some ⟨p, 20, none⟩)
  | _, _, _ => True
theorem s11_mono {p k cap b1 n1 b2 n2 m : Nat} {A : Option Addr} : ∀ (i : Nat) (v : Value) (w w' : World), True → S11 p k cap b1 n1 b2 n2 m A i v w → S11 p k cap b1 n1 b2 n2 m A i v w' := by
  intro i v w w' _ h
  unfold S11 at *
  split at h <;> simp_all
theorem Lies.below {w w1 : World} {A : Option Addr} {n : Nat} {xs : List Int} (h : Lies w A n xs) (hb : Below w.heap.size w w1) : Lies w1 A n xs :=
  ⟨h.1, fun h0 => by obtain ⟨b, o, e, hlt, hc⟩ := h.2 h0; exact ⟨b, o, e, by have := hb.size; omega, fun i hi => by rw [hb.cell (p := ⟨b, o + i, none⟩) hlt]; exact hc i hi⟩⟩
theorem bs57 (A B : Option Addr) (n1 c1 n2 c2 : Nat) (w : World) : (Instr.buildSlice 57 1 #[(0, .agg #[.slice A n1 c1, .slice B n2 c2])]).run Try.prog w = .ok (.slice (some ⟨w.heap.size, 0, none⟩) 1 1) (w.alloc (.cells #[.slice A n1 c1, .slice B n2 c2] 74)) := by kernel_rfl
theorem bld74 (A B : Option Addr) (n1 c1 n2 c2 : Nat) (w : World) : (Instr.build 74 #[(0, .slice A n1 c1), (1, .slice B n2 c2)]).run Try.prog w = .ok (.agg #[.slice A n1 c1, .slice B n2 c2]) w := by kernel_rfl
theorem al74 (w : World) : (Instr.alloc 74 true (.tuple #[])).run Try.prog w = .ok (.pointer (some ⟨w.heap.size, 0, none⟩)) (w.alloc (.cells #[.slice none 0 0, .slice none 0 0] 74)) := by kernel_rfl
theorem s8_mono {q n1 c1 n2 c2 : Nat} {A1 A2 : Option Addr} : ∀ (i : Nat) (v : Value) (w w' : World), True → S8 q n1 c1 n2 c2 A1 A2 i v w → S8 q n1 c1 n2 c2 A1 A2 i v w' := by
  intro i v w w' _ h
  unfold S8 at *
  split at h <;> simp_all
/-- What is left when a directive has been added. -/
def Added (B p : Nat) (hs ps : List (List Int)) (xs1 xs2 : List Int) (w w' : World) : Prop := (∃ V X, Dirs B p (hs ++ [xs1]) (ps ++ [xs2]) V X w') ∧ Grew B p w w'
set_option maxHeartbeats 8000000 in
set_option maxRecDepth 100000 in
theorem add_any (B p q c1 c2 : Nat) (A1 A2 : Option Addr) (xs1 xs2 : List Int) (hs ps : List (List Int)) (V : Value) (X : List Value) (w : World) (hl1 : Lies w A1 xs1.length xs1) (hl2 : Lies w A2 xs2.length xs2) (hq : q < w.heap.size) (hn1 : xs1.length ≤ 2147483647) (hn2 : xs2.length ≤ 2147483647) (hD : Dirs B p hs ps V X w) (hm : hs.length ≤ 8)
    (hq0 : w.cell? ⟨q, 0, none⟩ = some (.slice A1 xs1.length c1)) (hq1 : w.cell? ⟨q, 1, none⟩ = some (.slice A2 xs2.length c2)) (hne : ∀ i, i < hs.length → same (strOfNums xs1) (strOfNums (hs.getD i [])) = false) :
    Calls Try.prog 26 #[.pointer (some ⟨p, 0, none⟩), .pointer (some ⟨q, 0, none⟩), .bool true] w fun e w' => e = .returned (.bool true) ∧ Added B p hs ps xs1 xs2 w w' := by
  have h20 := hD.cell
  have hpB := hD.lt
  have hBw := hD.le
  have hform := hD.form
  have HD := Lib.hid hD
  have HNE := Lib.hid hne
  have HFO := Lib.hid hform
  clear hD hne hform
  have H20 := Lib.hid h20
  have HQ0 := Lib.hid hq0
  have HQ1 := Lib.hid hq1
  have HL1 := Lib.hid hl1
  have HL2 := Lib.hid hl2
  clear hq0 hq1 hl1 hl2 h20
  obtain ⟨n1, HN1⟩ : ∃ n : Nat, Hid (xs1.length = n) := ⟨_, rfl⟩
  obtain ⟨n2, HN2⟩ : ∃ n : Nat, Hid (xs2.length = n) := ⟨_, rfl⟩
  obtain ⟨n, HN⟩ : ∃ n : Nat, Hid (hs.length = n) := ⟨_, rfl⟩
  rw [HN1.out] at HQ0 HL1 hn1
  rw [HN2.out] at HQ1 HL2 hn2
  rw [HN.out] at HNE HFO hm
  obtain ⟨A, cap, HV⟩ : ∃ A cap, Hid (V = .slice A n cap) := by
    rcases HFO.out with ⟨h, A, c, e⟩ | ⟨g, c, _, e, _⟩
    · obtain rfl : n = 0 := by rw [← HN.out, h]; rfl
      exact ⟨A, c, e⟩
    · exact ⟨_, c, e⟩
  rw [HV.out] at H20
  go_enter Try.func26, Try.ntmps26
  try simp only [List.append]
  go_wp2_with fail
  go_loopw [7] (fun i wr => ∃ k : Nat, k ≤ n ∧ i = .int .i64 k ∧ ∃ d, wr = w.drewN d) (fun i _ => n - (intOf i).toNat)
  case atStart => exact ⟨0, Nat.zero_le _, rfl, 0, rfl⟩
  obtain ⟨k, hk, rfl, d, hd⟩ := hrel
  have hDr : Dirs B p hs ps V X wr := by rw [hd]; exact HD.out.drewN d
  have l1 : Lies wr A1 n1 xs1 := by rw [hd]; exact HL1.out
  have l2 : Lies wr A2 n2 xs2 := by rw [hd]; exact HL2.out
  have c20 : wr.cell? ⟨p, 20, none⟩ = some (.slice A n cap) := by rw [hd]; exact H20.out
  have f20 : wr.frozen? ⟨p, 20, none⟩ = false := by rw [hd]; exact HD.out.free
  have hgr : Grew B p w wr := by rw [hd]; exact ⟨rfl, rfl, rfl, Nat.le_refl _, fun _ _ _ => rfl, fun _ _ => rfl, fun _ => rfl⟩
  have hqr : q < wr.heap.size := by rw [hd]; exact hq
  have hBr : B ≤ wr.heap.size := by rw [hd]; exact hBw
  have HDR := Lib.hid hDr
  have L1 := Lib.hid l1
  have L2 := Lib.hid l2
  have HGR := Lib.hid hgr
  have HWD := Lib.hid hd
  have HQR0 : Hid (wr.cell? ⟨q, 0, none⟩ = some (.slice A1 n1 c1)) := by rw [hd]; exact HQ0.out
  have HQR1 : Hid (wr.cell? ⟨q, 1, none⟩ = some (.slice A2 n2 c2)) := by rw [hd]; exact HQ1.out
  clear hDr l1 l2 hgr hd HQ0 HQ1 HL1 HL2 HD
  by_cases hkn : k < n
  · obtain ⟨g, hg1, hg2, hcl⟩ : ∃ g, A = some ⟨g, 0, none⟩ ∧ n ≤ cap ∧ ∀ i, i < n * 2 → wr.cell? ⟨g, i, none⟩ = X[i]? := by
      rcases HDR.out.form with ⟨h, _⟩ | ⟨g, c, _, e, _, _, hc, hx⟩
      · have := HN.out; rw [h] at this; simp at this; omega
      · rw [HV.out, HN.out] at e
        rw [HN.out] at hc hx
        simp only [Value.slice.injEq] at e
        obtain ⟨e1, _, e2⟩ := e
        exact ⟨g, e1, by omega, hx⟩
    subst hg1
    obtain ⟨a1, b1, a2, b2, x1, x2, o1, o2⟩ := HDR.out.at k (by rw [HN.out]; exact hkn)
    have ck : wr.cell? ⟨g, k * 2, none⟩ = some (.slice a1 (hs.getD k []).length b1) := by rw [hcl (k * 2) (by omega), Nat.mul_comm]; exact x1
    have heq : ∀ N, Calls Try.prog 39 #[.slice A1 n1 c1, .slice a1 (hs.getD k []).length b1] (wr.drewN N) fun e w' => e = .returned (.bool false) ∧ w' = wr.drewN N := by
      intro N
      have := equal_any A1 a1 n1 c1 (hs.getD k []).length b1 xs1 (hs.getD k []) (wr.drewN N) L1.out o1.lies
      rw [HNE.out k hkn] at this
      exact this
    have HEQ := Lib.hid heq
    have cq0 := HQR0.out
    clear heq x1 x2 o1 o2 hcl
    generalize (hs.getD k []).length = nk at *
    go_wp2_with fail
    go_quiet ((go_at_call 39; exact Calls.quiet_of_same (HEQ.out _)))
    go_wp2_with fail
    go_roundw
    case rel => exact ⟨k + 1, by omega, by go_num, d + nq, by rw [HWD.out]; simp [World.drewN, Nat.add_assoc]⟩
    case measure => simp [intOf]; omega
  obtain rfl : k = n := by omega
  clear hkn hk
  go_wp2_with fail
  refine Sp.region_specs_v (by kernel_rfl) _ (by kernel_rfl) (by kernel_rfl) (by kernel_rfl) rfl (by kernel_rfl) (S8 q n1 c1 n2 c2 A1 A2) (R8 n1 n2 wr) (fun _ _ => True) ⟨(Below.refl _ _).drew, (fun h => by cases h), (fun h => by cases h), (fun h => by cases h), (fun h => by cases h), (fun h => by cases h)⟩ s8_mono ?_ ?_
  · intro i hi L vs a w1 hcl hL F hV hI
    have hcases : i = 0 ∨ i = 1 ∨ i = 2 ∨ i = 3 ∨ i = 4 ∨ i = 5 ∨ i = 6 ∨ i = 7 ∨ i = 8 ∨ i = 9 ∨ i = 10 ∨ i = 11 ∨ i = 12 ∨ i = 13 ∨ i = 14 := by have hi' : i < 15 := hi; omega
    rcases hcases with rfl | rfl | rfl | rfl | rfl | rfl | rfl | rfl | rfl | rfl | rfl | rfl | rfl | rfl | rfl
    · have d1 : a.tmps.getD 1 undef = .pointer (some ⟨q, 0, none⟩) := F.out 1 (by kernel_rfl)
      exact Sp.sp_value rfl (Sp.wanted_none rfl) (v := .pointer (some ⟨q, 0, none⟩)) (w' := w1) (by simp [execOp, Act.eval, d1, Sp.gd d1, go_sem]) trivial trivial ⟨rfl, hI.pure 0 _ (by decide) (by decide) (by decide) (by decide) (by decide)⟩
    · have d34 : a.tmps.getD 34 undef = .pointer (some ⟨q, 0, none⟩) := F.val 0 34 (by kernel_rfl) (by rfl)
      exact Sp.sp_value rfl (Sp.wanted_none rfl) (v := .pointer (some ⟨q, 0, none⟩)) (w' := w1) (by simp [execOp, Act.eval, d34, Sp.gd d34, go_sem]) trivial trivial ⟨rfl, hI.pure 1 _ (by decide) (by decide) (by decide) (by decide) (by decide)⟩
    · have d35 : a.tmps.getD 35 undef = .pointer (some ⟨q, 0, none⟩) := F.val 1 35 (by kernel_rfl) (by rfl)
      exact Sp.sp_value rfl (Sp.wanted_none rfl) (v := .pointer (some ⟨q, 0, none⟩)) (w' := w1) (by simp [execOp, Act.eval, d35, Sp.gd d35, go_sem]) trivial trivial ⟨rfl, hI.pure 2 _ (by decide) (by decide) (by decide) (by decide) (by decide)⟩
    · have d36 : a.tmps.getD 36 undef = .pointer (some ⟨q, 0, none⟩) := F.val 2 36 (by kernel_rfl) (by rfl)
      have hc : w1.cell? ⟨q, 0, none⟩ = some (.slice A1 n1 c1) := by rw [hI.bel.cell (p := ⟨q, 0, none⟩) hqr]; exact HQR0.out
      exact Sp.sp_value rfl (Sp.wanted_none rfl) (v := .slice A1 n1 c1) (w' := w1) (by simp [execOp, Act.eval, d36, Sp.gd d36, hc, go_sem]) trivial trivial ⟨rfl, hI.pure 3 _ (by decide) (by decide) (by decide) (by decide) (by decide)⟩
    · have d37 : a.tmps.getD 37 undef = .slice A1 n1 c1 := F.val 3 37 (by kernel_rfl) (by rfl)
      exact Sp.sp_value rfl (Sp.wanted_none rfl) (v := .int .i64 (n1 : Int)) (w' := w1) (by simp [execOp, Act.eval, d37, Sp.gd d37, go_sem]) trivial trivial ⟨rfl, hI.pure 4 _ (by decide) (by decide) (by decide) (by decide) (by decide)⟩
    · have d38 : a.tmps.getD 38 undef = .int .i64 (n1 : Int) := F.val 4 38 (by kernel_rfl) (by rfl)
      exact Sp.sp_value rfl (Sp.wanted_none rfl) (v := .slice (some ⟨w1.heap.size, 0, none⟩) n1 n1) (w' := w1.alloc (.cells (zeros n1).toArray 5)) (by simp [execOp, Act.eval, d38, Sp.gd d38, mk_any n1 hn1, Result.andThen, go_sem]) trivial trivial ⟨⟨_, rfl⟩, hI.make1 (by cases e : L 12 with | false => rfl | true => (have := hcl 12 (by decide) e 5 (by kernel_rfl); rw [hL] at this; cases this)) (by cases e : L 14 with | false => rfl | true => (have := hcl 14 (by decide) e 5 (by kernel_rfl); rw [hL] at this; cases this))⟩
    · have d1 : a.tmps.getD 1 undef = .pointer (some ⟨q, 0, none⟩) := F.out 1 (by kernel_rfl)
      exact Sp.sp_value rfl (Sp.wanted_none rfl) (v := .pointer (some ⟨q, 0, none⟩)) (w' := w1) (by simp [execOp, Act.eval, d1, Sp.gd d1, go_sem]) trivial trivial ⟨rfl, hI.pure 6 _ (by decide) (by decide) (by decide) (by decide) (by decide)⟩
    · have d40 : a.tmps.getD 40 undef = .pointer (some ⟨q, 0, none⟩) := F.val 6 40 (by kernel_rfl) (by rfl)
      exact Sp.sp_value rfl (Sp.wanted_none rfl) (v := .pointer (some ⟨q, 0, none⟩)) (w' := w1) (by simp [execOp, Act.eval, d40, Sp.gd d40, go_sem]) trivial trivial ⟨rfl, hI.pure 7 _ (by decide) (by decide) (by decide) (by decide) (by decide)⟩
    · have d41 : a.tmps.getD 41 undef = .pointer (some ⟨q, 0, none⟩) := F.val 7 41 (by kernel_rfl) (by rfl)
      exact Sp.sp_value rfl (Sp.wanted_none rfl) (v := .pointer (some ⟨q, 1, none⟩)) (w' := w1) (by simp [execOp, Act.eval, d41, Sp.gd d41, go_sem]) trivial trivial ⟨rfl, hI.pure 8 _ (by decide) (by decide) (by decide) (by decide) (by decide)⟩
    · have d42 : a.tmps.getD 42 undef = .pointer (some ⟨q, 1, none⟩) := F.val 8 42 (by kernel_rfl) (by rfl)
      have hc : w1.cell? ⟨q, 1, none⟩ = some (.slice A2 n2 c2) := by rw [hI.bel.cell (p := ⟨q, 1, none⟩) hqr]; exact HQR1.out
      exact Sp.sp_value rfl (Sp.wanted_none rfl) (v := .slice A2 n2 c2) (w' := w1) (by simp [execOp, Act.eval, d42, Sp.gd d42, hc, go_sem]) trivial trivial ⟨rfl, hI.pure 9 _ (by decide) (by decide) (by decide) (by decide) (by decide)⟩
    · have d43 : a.tmps.getD 43 undef = .slice A2 n2 c2 := F.val 9 43 (by kernel_rfl) (by rfl)
      exact Sp.sp_value rfl (Sp.wanted_none rfl) (v := .int .i64 (n2 : Int)) (w' := w1) (by simp [execOp, Act.eval, d43, Sp.gd d43, go_sem]) trivial trivial ⟨rfl, hI.pure 10 _ (by decide) (by decide) (by decide) (by decide) (by decide)⟩
    · have d44 : a.tmps.getD 44 undef = .int .i64 (n2 : Int) := F.val 10 44 (by kernel_rfl) (by rfl)
      exact Sp.sp_value rfl (Sp.wanted_none rfl) (v := .slice (some ⟨w1.heap.size, 0, none⟩) n2 n2) (w' := w1.alloc (.cells (zeros n2).toArray 5)) (by simp [execOp, Act.eval, d44, Sp.gd d44, mk_any n2 hn2, Result.andThen, go_sem]) trivial trivial ⟨⟨_, rfl⟩, hI.make2 (by cases e : L 12 with | false => rfl | true => (have := hcl 12 (by decide) e 11 (by kernel_rfl); rw [hL] at this; cases this)) (by cases e : L 14 with | false => rfl | true => (have := hcl 14 (by decide) e 11 (by kernel_rfl); rw [hL] at this; cases this))⟩
    · have d39 := F.val 5 39 (by kernel_rfl) (by rfl)
      have d45 := F.val 11 45 (by kernel_rfl) (by rfl)
      have v5 := (hV 5 (by kernel_rfl)).2.2 39 rfl
      have v11 := (hV 11 (by kernel_rfl)).2.2 45 rfl
      obtain ⟨b1, e1⟩ := (hV 5 (by kernel_rfl)).2.1
      obtain ⟨b2, e2⟩ := (hV 11 (by kernel_rfl)).2.1
      have hp := hI.pair
      rw [e1] at v5
      rw [e2] at v11
      rw [e1, e2] at hp
      exact Sp.sp_value rfl (Sp.wanted_none rfl) (v := .agg #[.slice (some ⟨b1, 0, none⟩) n1 n1, .slice (some ⟨b2, 0, none⟩) n2 n2]) (w' := w1) (by simp [execOp, Act.eval, v5, Sp.gd v5, v11, Sp.gd v11, bld74, go_sem]) trivial trivial ⟨trivial, hp⟩
    · exact Sp.sp_value rfl (Sp.wanted_none rfl) (v := .pointer (some ⟨w1.heap.size, 0, none⟩)) (w' := w1.alloc (.cells #[.slice none 0 0, .slice none 0 0] 74)) (by simp [execOp, Act.eval, al74]) trivial trivial ⟨⟨_, rfl⟩, hI.cell (by cases e : L 14 with | false => rfl | true => (have := hcl 14 (by decide) e 13 (by kernel_rfl); rw [hL] at this; cases this))⟩
    · have d8 := F.val 13 8 (by kernel_rfl) (by rfl)
      have d46 := F.val 12 46 (by kernel_rfl) (by rfl)
      have v13 := (hV 13 (by kernel_rfl)).2.2 8 rfl
      have v12 := (hV 12 (by kernel_rfl)).2.2 46 rfl
      obtain ⟨b1, e1⟩ := (hV 5 (by kernel_rfl)).2.1
      obtain ⟨b2, e2⟩ := (hV 11 (by kernel_rfl)).2.1
      obtain ⟨m, e3⟩ := (hV 13 (by kernel_rfl)).2.1
      have hp := hI.store undef m e3 (hV 13 (by kernel_rfl)).1 hL
      rw [hI.r12 (hV 12 (by kernel_rfl)).1, e1, e2] at v12
      rw [e3] at v13
      rw [e1, e2] at hp
      obtain ⟨m', e4, _, hc, _⟩ := hI.r13 (hV 13 (by kernel_rfl)).1
      obtain rfl : m = m' := by rw [e3] at e4; simpa using e4
      exact Sp.sp_store rfl (Sp.wanted_none rfl) (w' := w1.setCells m 0 [.slice (some ⟨b1, 0, none⟩) n1 n1, .slice (some ⟨b2, 0, none⟩) n2 n2]) (by simp [execOp, Act.eval, v13, Sp.gd v13, v12, Sp.gd v12, st_run m _ _ n1 n2 n1 n2 w1 _ _ (hc hL)]) trivial trivial ⟨trivial, hp⟩
  · intro val L w1 hall hI hS
    obtain ⟨b1, e1, hb1, hc1⟩ := hI.r5 (hall 5 (by decide))
    obtain ⟨b2, e2, hb2, hc2⟩ := hI.r11 (hall 11 (by decide))
    have hne := hI.ne (hall 5 (by decide)) (hall 11 (by decide))
    obtain ⟨m, e3, hm', -, hcm⟩ := hI.r13 (hall 13 (by decide))
    have hcm := hcm (hall 14 (by decide))
    have hbel := hI.bel
    rw [e1, e2] at hne hcm
    simp only [Value.ownBlock, ne_eq, Option.some.injEq] at hne
    simp only [Sp.setAll, List.setIfInBounds_toArray, List.set_cons_zero, List.set_cons_succ, e3]
    clear hI hS hall
    generalize val 0 = u34
    have hM1 : Mid wr m b1 b2 n1 n2 (zeros n1) (zeros n2) w1 := ⟨hbel, hcm, hc1, hc2, hm', hb1, hb2, hne⟩
    obtain ⟨cm0, cm1⟩ := hM1.cells
    have cq0 : w1.cell? ⟨q, 0, none⟩ = some (.slice A1 n1 c1) := by rw [hbel.cell (p := ⟨q, 0, none⟩) hqr]; exact HQR0.out
    have l1 : Lies w1 A1 n1 xs1 := L1.out.below hbel
    have HM1 := Lib.hid hM1
    have HLL := Lib.hid l1
    clear hbel hc1 hc2 hcm hM1 l1 c20 f20
    go_wp2_with fail
    refine wp_region_still_tail 6 (by kernel_rfl) (by kernel_rfl) ?_
    simp only [List.take_succ_cons, List.take_zero, List.drop_succ_cons, List.drop_zero]
    repeat still_step
    refine wpStill_nil ?_
    change wpList _ _ _ _ _ w1.drew
    refine wpList_copy_lies rfl (.tmp 48) (.tmp 52) rfl b1 n1 c1 A1 xs1 rfl rfl HM1.out.drew.one (HLL.out.below (Below.refl _ _).drew) ?_
    rintro w2 hc1 hs2
    have hM2 := HM1.out.drew.copy1 hs2 hc1
    obtain ⟨dm0, dm1⟩ := hM2.cells
    have cq1 : w2.cell? ⟨q, 1, none⟩ = some (.slice A2 n2 c2) := by rw [hM2.bel.cell (p := ⟨q, 1, none⟩) hqr]; exact HQR1.out
    have l2 : Lies w2 A2 n2 xs2 := L2.out.below hM2.bel
    have HM2 := Lib.hid hM2
    have HLL2 := Lib.hid l2
    clear hM2 l2 hs2 hc1 cm0 cm1 cq0 HM1 HLL
    go_wp2_with fail
    refine wp_region_still_tail 6 (by kernel_rfl) (by kernel_rfl) ?_
    simp only [List.take_succ_cons, List.take_zero, List.drop_succ_cons, List.drop_zero]
    repeat still_step
    refine wpStill_nil ?_
    change wpList _ _ _ _ _ w2.drew
    refine wpList_copy_lies rfl (.tmp 55) (.tmp 59) rfl b2 n2 c2 A2 xs2 rfl rfl HM2.out.drew.two (HLL2.out.below (Below.refl _ _).drew) ?_
    rintro w3 hc2 hs3
    have hM3 := HM2.out.drew.copy2 hs3 hc2
    obtain ⟨em0, em1⟩ := hM3.cells
    have c20 : w3.cell? ⟨p, 20, none⟩ = some (.slice A k cap) := by rw [hM3.bel.cell (p := ⟨p, 20, none⟩) (by simp; omega), HDR.out.cell, HV.out]
    have f20 : w3.frozen? ⟨p, 20, none⟩ = false := by rw [hM3.bel.frozen (p := ⟨p, 20, none⟩) (by simp; omega)]; exact HDR.out.free
    have hmw : m < w3.heap.size := lt_of_get hM3.mid
    have HM3 := Lib.hid hM3
    have hown : w3.ownsRow B 74 2 (.slice A k cap) k X := by
      have h0 := HDR.out.own
      rw [HV.out, HN.out] at h0
      exact h0.kept (row := none) ⟨hM3.bel.os, hM3.bel.tape, hM3.bel.output, hM3.bel.size, fun i hi _ => hM3.bel.block i hi⟩ (by by_cases e : (Value.slice A k cap).ownBlock = none; (exact .inl e); (exact .inr e))
    have HOW := Lib.hid hown
    have hB3 : B ≤ w3.heap.size := by have := hM3.bel.size; omega
    clear hM3 hs3 hc2 dm0 dm1 cq1 HM2 HLL2 hown
    have hVp : (Value.slice A k cap).ownBlock ≠ some p := fun e => by rw [← HV.out] at e; have := HDR.out.own.lt p e; omega
    have hp3 : p < w3.heap.size := by omega
    go_wp2_with fail
    refine Sp.region_specs_v (by kernel_rfl) _ (by kernel_rfl) (by kernel_rfl) (by kernel_rfl) rfl (by kernel_rfl) (S11 p k cap b1 n1 b2 n2 m A) (R11 B p k b1 n1 b2 n2 (.slice A k cap) X w3) (fun _ _ => True) (.inl ⟨rfl, rfl, rfl, ⟨rfl, rfl, rfl, rfl⟩⟩) s11_mono ?_ ?_
    · intro i hi L vs a w1 hcl hL F hV hI
      have hcases : i = 0 ∨ i = 1 ∨ i = 2 ∨ i = 3 ∨ i = 4 ∨ i = 5 ∨ i = 6 ∨ i = 7 ∨ i = 8 ∨ i = 9 ∨ i = 10 := by have hi' : i < 11 := hi; omega
      rcases hcases with rfl | rfl | rfl | rfl | rfl | rfl | rfl | rfl | rfl | rfl | rfl
      · have d0 : a.tmps.getD 0 undef = .pointer (some ⟨p, 0, none⟩) := F.out 0 (by kernel_rfl)
        exact Sp.sp_value rfl (Sp.wanted_none rfl) (v := .pointer (some ⟨p, 0, none⟩)) (w' := w1) (by simp [execOp, Act.eval, d0, Sp.gd d0, go_sem]) trivial trivial ⟨rfl, hI.pure 0 _ (by decide) (by decide) (by decide)⟩
      · have d0 : a.tmps.getD 0 undef = .pointer (some ⟨p, 0, none⟩) := F.out 0 (by kernel_rfl)
        exact Sp.sp_value rfl (Sp.wanted_none rfl) (v := .pointer (some ⟨p, 0, none⟩)) (w' := w1) (by simp [execOp, Act.eval, d0, Sp.gd d0, go_sem]) trivial trivial ⟨rfl, hI.pure 1 _ (by decide) (by decide) (by decide)⟩
      · have d62 : a.tmps.getD 62 undef = .pointer (some ⟨p, 0, none⟩) := F.val 1 62 (by kernel_rfl) (by rfl)
        exact Sp.sp_value rfl (Sp.wanted_none rfl) (v := .pointer (some ⟨p, 0, none⟩)) (w' := w1) (by simp [execOp, Act.eval, d62, Sp.gd d62, go_sem]) trivial trivial ⟨rfl, hI.pure 2 _ (by decide) (by decide) (by decide)⟩
      · have d63 : a.tmps.getD 63 undef = .pointer (some ⟨p, 0, none⟩) := F.val 2 63 (by kernel_rfl) (by rfl)
        exact Sp.sp_value rfl (Sp.wanted_none rfl) (v := .pointer (some ⟨p, 20, none⟩)) (w' := w1) (by simp [execOp, Act.eval, d63, Sp.gd d63, go_sem]) trivial trivial ⟨rfl, hI.pure 3 _ (by decide) (by decide) (by decide)⟩
      · have d64 : a.tmps.getD 64 undef = .pointer (some ⟨p, 20, none⟩) := F.val 3 64 (by kernel_rfl) (by rfl)
        have hc : w1.cell? ⟨p, 20, none⟩ = some (.slice A k cap) := (hI.cell (by cases e : L 7 with | false => rfl | true => (have := hcl 7 (by decide) e 4 (by kernel_rfl); rw [hL] at this; cases this)) ⟨p, 20, none⟩ hp3).trans c20
        exact Sp.sp_value rfl (Sp.wanted_none rfl) (v := .slice A k cap) (w' := w1) (by simp [execOp, Act.eval, d64, Sp.gd d64, hc, go_sem]) trivial trivial ⟨rfl, hI.pure 4 _ (by decide) (by decide) (by decide)⟩
      · have d8 : a.tmps.getD 8 undef = .pointer (some ⟨m, 0, none⟩) := F.out 8 (by kernel_rfl)
        have hc0 : w1.cell? ⟨m, 0, none⟩ = some (.slice (some ⟨b1, 0, none⟩) n1 n1) := (hI.cell (by cases e : L 7 with | false => rfl | true => (have := hcl 7 (by decide) e 5 (by kernel_rfl); rw [hL] at this; cases this)) ⟨m, 0, none⟩ hmw).trans em0
        have hc1 : w1.cell? ⟨m, 1, none⟩ = some (.slice (some ⟨b2, 0, none⟩) n2 n2) := (hI.cell (by cases e : L 7 with | false => rfl | true => (have := hcl 7 (by decide) e 5 (by kernel_rfl); rw [hL] at this; cases this)) ⟨m, 1, none⟩ hmw).trans em1
        exact Sp.sp_value rfl (Sp.wanted_none rfl) (v := .agg #[.slice (some ⟨b1, 0, none⟩) n1 n1, .slice (some ⟨b2, 0, none⟩) n2 n2]) (w' := w1) (by simp [execOp, Act.eval, d8, Sp.gd d8, hc0, hc1, go_sem]) trivial trivial ⟨rfl, hI.pure 5 _ (by decide) (by decide) (by decide)⟩
      · have d66 : a.tmps.getD 66 undef = .agg #[.slice (some ⟨b1, 0, none⟩) n1 n1, .slice (some ⟨b2, 0, none⟩) n2 n2] := F.val 5 66 (by kernel_rfl) (by rfl)
        exact Sp.sp_value rfl (Sp.wanted_none rfl) (v := .slice (some ⟨w1.heap.size, 0, none⟩) 1 1) (w' := w1.alloc (pair b1 n1 b2 n2)) (by simp [execOp, Act.eval, d66, Sp.gd d66, bs57, pair, two, go_sem]) trivial trivial ⟨⟨_, rfl⟩, hI.built hL⟩
      · have d65 : a.tmps.getD 65 undef = .slice A k cap := F.val 4 65 (by kernel_rfl) (by rfl)
        have d67 := F.val 6 67 (by kernel_rfl) (by rfl)
        obtain ⟨l6, ⟨bb, e6⟩, d6⟩ := hV 6 (by kernel_rfl)
        have d67 := d6 67 rfl
        obtain ⟨hv6, g, cp, w5, hr, hI2⟩ := hI.append l6 hL HOW.out (by omega) hB3 57
        rw [hv6] at d67
        exact Sp.sp_value rfl (Sp.wanted_none rfl) (v := .slice (some ⟨g, 0, none⟩) (k + 1) cp) (w' := w5) (by simp [execOp, Act.eval, d65, Sp.gd d65, d67, Sp.gd d67, resolve, invoke, builtin, hr]) trivial trivial ⟨⟨g, cp, rfl⟩, hI2⟩
      · have d61 : a.tmps.getD 61 undef = .pointer (some ⟨p, 0, none⟩) := F.val 0 61 (by kernel_rfl) (by rfl)
        exact Sp.sp_value rfl (Sp.wanted_none rfl) (v := .pointer (some ⟨p, 0, none⟩)) (w' := w1) (by simp [execOp, Act.eval, d61, Sp.gd d61, go_sem]) trivial trivial ⟨rfl, hI.pure 8 _ (by decide) (by decide) (by decide)⟩
      · have d69 : a.tmps.getD 69 undef = .pointer (some ⟨p, 0, none⟩) := F.val 8 69 (by kernel_rfl) (by rfl)
        exact Sp.sp_value rfl (Sp.wanted_none rfl) (v := .pointer (some ⟨p, 20, none⟩)) (w' := w1) (by simp [execOp, Act.eval, d69, Sp.gd d69, go_sem]) trivial trivial ⟨rfl, hI.pure 9 _ (by decide) (by decide) (by decide)⟩
      · have d70 : a.tmps.getD 70 undef = .pointer (some ⟨p, 20, none⟩) := F.val 9 70 (by kernel_rfl) (by rfl)
        have d68 := F.val 7 68 (by kernel_rfl) (by rfl)
        obtain ⟨l7, ⟨gg, cc, e7⟩, d7⟩ := hV 7 (by kernel_rfl)
        have d68 := d7 68 rfl
        obtain ⟨g, cp, hv7, hc, hf, hI2⟩ := hI.store l7 hL undef hp3 hVp c20 f20
        rw [hv7] at d68
        exact Sp.sp_store rfl (Sp.wanted_none rfl) (w' := w1.setCell ⟨p, 20, none⟩ (.slice (some ⟨g, 0, none⟩) (k + 1) cp)) (by simp [execOp, Act.eval, d70, Sp.gd d70, d68, Sp.gd d68, hc, hf, go_sem]) trivial trivial ⟨trivial, hI2⟩
    · intro val L w6 hall hI hS
      have h10 := hall 10 (by decide)
      have h7 := hall 7 (by decide)
      rcases hI with ⟨_, h, _⟩ | ⟨_, h, _⟩ | ⟨_, _, g, cp, w5, hv, ho, hg, hgg, hlt, ⟨h, _⟩ | ⟨_, rfl⟩⟩
      · rw [h7] at h; cases h
      · rw [h7] at h; cases h
      · rw [h10] at h; cases h
      have hM3 := HM3.out
      have hDD := HDR.out
      rw [HV.out] at hDD
      have hfin := hDD.added (xs1 := xs1) (xs2 := xs2) (b1 := b1) (b2 := b2) (m := m) (w3 := w3) (w4 := w3.alloc (pair b1 n1 b2 n2)) (w5 := w5) (g := g) (cap := cp) (by rw [HN1.out, HN2.out]; exact hM3) ((Below.refl _ _).alloc (Nat.le_refl _) _) hg (by simpa using hgg) hlt (by rw [HN.out, HN1.out, HN2.out]; exact ho)
      rw [HN.out, HN1.out, HN2.out] at hfin
      have HFIN : Hid (Added B p hs ps xs1 xs2 w (w5.setCell ⟨p, 20, none⟩ (.slice (some ⟨g, 0, none⟩) (k + 1) cp))) := ⟨⟨_, _, hfin.1⟩, HGR.out.trans hfin.2⟩
      clear hall hS hv ho hg hgg hlt hM3 hDD hfin h10 h7
      simp only [Sp.setAll, List.setIfInBounds_toArray, List.set_cons_zero, List.set_cons_succ]
      generalize w5.setCell ⟨p, 20, none⟩ (.slice (some ⟨g, 0, none⟩) (k + 1) cp) = w7 at *
      go_wp2_with fail
      go_ret
      exact ⟨rfl, HFIN.out⟩
end Go.Proofs.Ytccmflnkhabilaa.Tg
