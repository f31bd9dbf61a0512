/- impl.Resolve at a number's text, with its deferred recover: walked. -/
import Derived.Test.YtpdfamigmkeflaaDoorRiI
import Derived.Test.YtpdfamigmkeflaaDoorSp
namespace Go.Proofs.YtpdfamigmkeflaaDoor.Ri
open Go.RowKit
set_option linter.unusedVariables false
set_option linter.unusedSimpArgs false
/-- An integer as the thin package tells it. -/
def sc (V : Int) : List Value := [.int .i64 2, .bool false, .int .i64 V, .int .u64 0, .float .f64 0, .string ⟨#[]⟩]
def tagInt : Value := .string ⟨#[33, 33, 105, 110, 116]⟩
/-- What each operation leaves. -/
def Sh (V : Int) (nb : Nat) (i : Nat) (v : Value) (w : World) : Prop :=
  match i with
  | 0 => v = tagInt
  | 1 => v = .iface 3 (.int .i64 V)
  | 2 => v = .agg (sc V).toArray
  | 4 => Bk w (nb + 1) 26 (sc V)
  | 5 => Bk w (nb + 1 + 1) 3 [.int .i64 0]
  | _ => True
/-- What holds in the midst. -/
structure Md (nb : Nat) (w0 w : World) : Prop where
  a : Bk w nb 9 [tagInt]
  b : ∃ cur, Bk w (nb + 1) 26 cur ∧ cur.length = 6
  c : ∃ cur, Bk w (nb + 1 + 1) 3 [cur]
  bel : Below nb w0 w
def Mr (V : Int) (nb : Nat) (w w' : World) : Prop := (Bk w (nb + 1) 26 (sc V) → Bk w' (nb + 1) 26 (sc V)) ∧ (Bk w (nb + 1 + 1) 3 [.int .i64 0] → Bk w' (nb + 1 + 1) 3 [.int .i64 0])
theorem Mr.below {V : Int} {nb : Nat} {w w' : World} (hb : Below w.heap.size w w') : Mr V nb w w' := ⟨fun h => h.kp (Kp.of_below (ps := []) hb) (by simp), fun h => h.kp (Kp.of_below (ps := []) hb) (by simp)⟩
theorem Md.below {nb : Nat} {w0 w w' : World} (h : Md nb w0 w) (hb : Below w.heap.size w w') : Md nb w0 w' := by
  obtain ⟨cur, b1, b2⟩ := h.b
  obtain ⟨cu, c1⟩ := h.c
  have hk : Kp [] w w' := Kp.of_below hb
  exact ⟨h.a.kp hk (by simp), ⟨cur, b1.kp hk (by simp), b2⟩, ⟨cu, c1.kp hk (by simp)⟩, h.bel.trans (hb.mono (by have := h.a.lt; omega))⟩
theorem Sh.mono {V : Int} {nb : Nat} : ∀ i v w w', Mr V nb w w' → Sh V nb i v w → Sh V nb i v w'
  | 0, _, _, _, _, h => h
  | 1, _, _, _, _, h => h
  | 2, _, _, _, _, h => h
  | 3, _, _, _, _, h => h
  | 4, _, _, _, r, h => r.1 h
  | 5, _, _, _, r, h => r.2 h
  | _ + 6, _, _, _, _, h => h
set_option maxHeartbeats 4000000 in
set_option maxRecDepth 100000 in
theorem impl_any (l : List UInt8) (V : Int) (h : Rz l V) (w : World) : Calls Tryd.prog 5 #[.string ⟨#[]⟩, .string (S l)] w fun e w' => e = .returned (.tuple #[tagInt, .agg (sc V).toArray, .int .i64 0]) ∧ Below w.heap.size w w' := by
  have hmf : ∀ (fn : Fn) (first cap : Array Value) (w : World), (Instr.makeFunc fn first cap).run Tryd.prog w = .ok (.func fn first cap) w := fun _ _ _ _ => rfl
  have HZ := Lib.hid (fun w => zz_any l V h w)
  clear h
  go_enter_defers Tryd.func5, Tryd.ntmps5
  try simp only [List.append]
  go_wp2_with fail
  obtain ⟨nb, HNB⟩ : ∃ nb, Hid (w.heap.size = nb) := ⟨_, rfl⟩
  rw [HNB.out]
  obtain ⟨w1, HW1⟩ : ∃ w1 : World, Hid (((w.alloc (Obj.cells #[Value.string ⟨#[]⟩] 9)).alloc (Obj.cells #[.int .i64 0, .bool false, .int .i64 0, .int .u64 0, .float .f64 0, .string ⟨#[]⟩] 26)).alloc (Obj.cells #[.int .i64 0] 3) = w1) := ⟨_, rfl⟩
  have hk1 : Below nb w w1 := by rw [← HNB.out, ← HW1.out]; exact (((Below.refl _ _).alloc (Nat.le_refl _) _).alloc (by simp) _).alloc (by simp; omega) _
  have ha1 : Bk w1 nb 9 [.string ⟨#[]⟩] := by rw [← HNB.out, ← HW1.out]; exact ((Bk.new w [.string ⟨#[]⟩] 9).alloc _).alloc _
  have hb1 : Bk w1 (nb + 1) 26 [.int .i64 0, .bool false, .int .i64 0, .int .u64 0, .float .f64 0, .string ⟨#[]⟩] := by
    have h := Bk.new (w.alloc (Obj.cells #[Value.string ⟨#[]⟩] 9)) [.int .i64 0, .bool false, .int .i64 0, .int .u64 0, .float .f64 0, .string ⟨#[]⟩] 26
    rw [World.size_alloc] at h
    rw [← HNB.out, ← HW1.out]
    exact h.alloc _
  have hc1 : Bk w1 (nb + 1 + 1) 3 [.int .i64 0] := by
    have h := Bk.new ((w.alloc (Obj.cells #[Value.string ⟨#[]⟩] 9)).alloc (Obj.cells #[.int .i64 0, .bool false, .int .i64 0, .int .u64 0, .float .f64 0, .string ⟨#[]⟩] 26)) [.int .i64 0] 3
    rw [World.size_alloc, World.size_alloc] at h
    rw [← HNB.out, ← HW1.out]
    exact h
  rw [HW1.out]
  refine (HZ.out _).mono ?_
  rintro e w2 ⟨rfl, hb2⟩
  have ha2 := ha1.kp (Kp.of_below (ps := []) hb2) (by simp)
  have hr2 := hb1.kp (Kp.of_below (ps := []) hb2) (by simp)
  have hc2 := hc1.kp (Kp.of_below (ps := []) hb2) (by simp)
  have hk2 : Below nb w w2 := hk1.trans (hb2.mono (by have := hc1.lt; omega))
  obtain ⟨q0, z0⟩ := at_ ha2 0 rfl
  have HA2 := Lib.hid ha2
  have HB2 := Lib.hid hr2
  have HC2 := Lib.hid hc2
  have HK2 := Lib.hid hk2
  clear ha1 hb1 hc1 hk1 ha2 hr2 hc2 hk2 hb2
  go_upto_region 3 with fail
  obtain ⟨w3, HW3⟩ : ∃ w3 : World, Hid (w2.setCell ⟨nb, 0, none⟩ (.string ⟨#[33, 33, 105, 110, 116]⟩) = w3) := ⟨_, rfl⟩
  rw [HW3.out]
  have ha3 : Bk w3 nb 9 [tagInt] := by rw [← HW3.out]; exact HA2.out.set 0 _
  have hr3 : Bk w3 (nb + 1) 26 [.int .i64 0, .bool false, .int .i64 0, .int .u64 0, .float .f64 0, .string ⟨#[]⟩] := by rw [← HW3.out]; exact HB2.out.other nb 0 _ (by omega)
  have hc3 : Bk w3 (nb + 1 + 1) 3 [.int .i64 0] := by rw [← HW3.out]; exact HC2.out.other nb 0 _ (by omega)
  have hk3 : Below nb w w3 := by rw [← HW3.out]; exact HK2.out.setCell (Nat.le_refl _) _
  have HMD := Lib.hid (show Md nb w w3.drew from ⟨ha3, ⟨_, hr3, rfl⟩, ⟨_, hc3⟩, hk3.trans ⟨rfl, rfl, rfl, Nat.le_refl _, fun _ _ => rfl⟩⟩)
  clear ha3 hr3 hc3 hk3 q0 z0 HW3 HA2 HB2 HC2 HK2
  refine Sp.region_specs (by kernel_rfl) _ (by kernel_rfl) (by kernel_rfl) (by kernel_rfl) rfl (by kernel_rfl) (Sh V nb) (Md nb w) (Mr V nb) HMD.out (fun i v w w' hR => Sh.mono i v w w' hR) ?_ ?_
  · intro i hi a w1 F hI
    have hcases : i = 0 ∨ i = 1 ∨ i = 2 ∨ i = 3 ∨ i = 4 ∨ i = 5 := by have hi' : i < 6 := hi; omega
    rcases hcases with rfl | rfl | rfl | rfl | rfl | rfl
    · have d4 : a.tmps.getD 4 undef = .pointer (some ⟨nb, 0, none⟩) := F.out 4 (by kernel_rfl)
      exact Sp.sp_value rfl (Sp.wanted_none rfl) (v := tagInt) (w' := w1) (by simp [execOp, Act.eval, d4, Sp.gd d4, (at_ hI.a 0 rfl).1, go_sem]) hI ⟨id, id⟩ rfl
    · have d7 : a.tmps.getD 7 undef = .iface 3 (.int .i64 V) := F.out 7 (by kernel_rfl)
      exact Sp.sp_value rfl (Sp.wanted_none rfl) (v := .iface 3 (.int .i64 V)) (w' := w1) (by simp [execOp, Act.eval, d7, Sp.gd d7, go_sem]) hI ⟨id, id⟩ rfl
    · have d16 : a.tmps.getD 16 undef = .iface 3 (.int .i64 V) := F.val 1 16 (by kernel_rfl) (by rfl)
      refine Sp.sp_call Tryd.func10 (by kernel_rfl) rfl #[.iface 3 (.int .i64 V)] rfl (Sp.wanted_none rfl) rfl (by simp only [List.map_toArray, List.map_cons, List.map_nil, Act.eval, d16]) ?_
      refine (scalar_any V w1).mono ?_
      rintro e w4 ⟨rfl, hb4⟩
      exact ⟨_, rfl, hI.below hb4, .below hb4, rfl⟩
    · have d4 : a.tmps.getD 4 undef = .pointer (some ⟨nb, 0, none⟩) := F.out 4 (by kernel_rfl)
      have d15 : a.tmps.getD 15 undef = tagInt := F.val 0 15 (by kernel_rfl) (by rfl)
      obtain ⟨g0, g1⟩ := at_ hI.a 0 rfl
      obtain ⟨cur, b1, b2⟩ := hI.b
      obtain ⟨cu, c1⟩ := hI.c
      have e4 := Sp.gd d4
      have e15 := Sp.gd d15
      unfold tagInt at d15 e15
      exact Sp.sp_store (w' := w1.setCell ⟨nb, 0, none⟩ tagInt) rfl (Sp.wanted_none rfl) (by simp [execOp, Act.eval, e4, e15, g0, g1, go_sem, tagInt]) ⟨hI.a.set 0 _, ⟨cur, b1.other nb 0 _ (by omega), b2⟩, ⟨cu, c1.other nb 0 _ (by omega)⟩, hI.bel.setCell (Nat.le_refl _) _⟩ ⟨fun h => h.other nb 0 _ (by omega), fun h => h.other nb 0 _ (by omega)⟩ trivial
    · have d5 : a.tmps.getD 5 undef = .pointer (some ⟨nb + 1, 0, none⟩) := F.out 5 (by kernel_rfl)
      have d17 : a.tmps.getD 17 undef = .agg (sc V).toArray := F.val 2 17 (by kernel_rfl) (by rfl)
      obtain ⟨cur, b1, b2⟩ := hI.b
      obtain ⟨cu, c1⟩ := hI.c
      have e5 := Sp.gd d5
      have e17 := Sp.gd d17
      have hst : (Instr.storeAt 26 (.pointer (some ⟨nb + 1, 0, none⟩)) (.agg (sc V).toArray)).run Tryd.prog w1 = .ok () (w1.setCells (nb + 1) 0 (sc V)) :=
        run_storeAt_mid (P := Tryd.prog) w1 (nb + 1) 0 26 (sc V).toArray (fun j hj => by
          have hj6 : j < 6 := hj
          rw [Nat.zero_add, (b1.cell j).1, (b1.cell j).2, List.getElem?_eq_getElem (by omega)]
          exact ⟨rfl, rfl⟩) (by kernel_rfl) (by kernel_rfl)
      have hb6 : Bk (w1.setCells (nb + 1) 0 (sc V)) (nb + 1) 26 (sc V) := by
        match cur, b2, b1 with
        | [a0, a1, a2, a3, a4, a5], _, b1 => exact (((((b1.set 0 _).set 1 _).set 2 _).set 3 _).set 4 _).set 5 _
      have ho : ∀ g t L, g ≠ nb + 1 → Bk w1 g t L → Bk (w1.setCells (nb + 1) 0 (sc V)) g t L := fun g t L hg h => (((((h.other (nb + 1) 0 _ hg).other (nb + 1) 1 _ hg).other (nb + 1) 2 _ hg).other (nb + 1) 3 _ hg).other (nb + 1) 4 _ hg).other (nb + 1) 5 _ hg
      have hbl : Below nb w (w1.setCells (nb + 1) 0 (sc V)) := (((((hI.bel.setCell (p := ⟨nb + 1, 0, none⟩) (by show nb ≤ nb + 1; omega) _).setCell (p := ⟨nb + 1, 1, none⟩) (by show nb ≤ nb + 1; omega) _).setCell (p := ⟨nb + 1, 2, none⟩) (by show nb ≤ nb + 1; omega) _).setCell (p := ⟨nb + 1, 3, none⟩) (by show nb ≤ nb + 1; omega) _).setCell (p := ⟨nb + 1, 4, none⟩) (by show nb ≤ nb + 1; omega) _).setCell (p := ⟨nb + 1, 5, none⟩) (by show nb ≤ nb + 1; omega) _
      exact Sp.sp_store (w' := w1.setCells (nb + 1) 0 (sc V)) rfl (Sp.wanted_none rfl) (by simp [execOp, Act.eval, e5, e17, hst]) ⟨ho _ _ _ (by omega) hI.a, ⟨_, hb6, rfl⟩, ⟨cu, ho _ _ _ (by omega) c1⟩, hbl⟩ ⟨fun _ => hb6, ho _ _ _ (by omega)⟩ hb6
    · have d6 : a.tmps.getD 6 undef = .pointer (some ⟨nb + 1 + 1, 0, none⟩) := F.out 6 (by kernel_rfl)
      obtain ⟨cur, b1, b2⟩ := hI.b
      obtain ⟨cu, c1⟩ := hI.c
      obtain ⟨g0, g1⟩ := at_ c1 0 rfl
      have e6 := Sp.gd d6
      exact Sp.sp_store (w' := w1.setCell ⟨nb + 1 + 1, 0, none⟩ (.int .i64 0)) rfl (Sp.wanted_none rfl) (by simp [execOp, Act.eval, e6, g0, g1, go_sem]) ⟨hI.a.other _ _ _ (by omega), ⟨cur, b1.other _ _ _ (by omega), b2⟩, ⟨_, c1.set 0 _⟩, hI.bel.setCell (by show nb ≤ nb + 1 + 1; omega) _⟩ ⟨fun h => h.other _ _ _ (by omega), fun h => h.set 0 _⟩ (c1.set 0 _)
  · intro val w4 hI hS
    have h4 : Bk w4 (nb + 1) 26 (sc V) := hS 4 (by decide)
    have h5 : Bk w4 (nb + 1 + 1) 3 [.int .i64 0] := hS 5 (by decide)
    have h3 := hI.a
    have HBL := Lib.hid hI.bel
    simp only [Sp.setAll, List.setIfInBounds_toArray, List.set_cons_zero, List.set_cons_succ]
    clear hS hI HMD
    obtain ⟨p0, _⟩ := at_ h3 0 rfl
    obtain ⟨r0, _⟩ := at_ h4 0 rfl
    obtain ⟨r1, _⟩ := at_ h4 1 rfl
    obtain ⟨r2, _⟩ := at_ h4 2 rfl
    obtain ⟨r3, _⟩ := at_ h4 3 rfl
    obtain ⟨r4, _⟩ := at_ h4 4 rfl
    obtain ⟨r5, _⟩ := at_ h4 5 rfl
    obtain ⟨t0, _⟩ := at_ h5 0 rfl
    go_wp2_with fail
    refine leaves_cons (f := 7) (args := #[.pointer (some ⟨nb, 0, none⟩), .pointer (some ⟨nb + 1, 0, none⟩), .pointer (some ⟨nb + 1 + 1, 0, none⟩)]) (by simp) (by simp [go_sem]) ?_
    refine (catch_idle _ _ _ _).mono ?_
    rintro e u' w'' ⟨rfl, rfl, rfl⟩
    simp [Leaves, settle, results, Tryd.results5, go_sem, p0, r0, r1, r2, r3, r4, r5, t0]
    exact ⟨rfl, by rw [HNB.out]; exact HBL.out⟩
end Go.Proofs.YtpdfamigmkeflaaDoor.Ri
