/- ScG: parts of the proof, one behind another. -/
import Derived.Test.YtocbbekciphjgaaDoorMz16
import Derived.Test.YtocbbekciphjgaaDoorMz38
/- ScG -/
/- A parser as it starts is a reader at its text's beginning; a parser's mark; the door to the version (ZzScanVersion). -/
namespace Go.Proofs.YtocbbekciphjgaaDoor.Sc
open Go.RowKit Go.Proofs.YtocbbekciphjgaaDoor.Rdp Go.Proofs.YtocbbekciphjgaaDoor.Pa
set_option linter.unusedVariables false
set_option linter.unusedSimpArgs false
theorem pStart_len (T r q : Value) : (pStart T r q).length = 52 := by
  unfold pStart
  simp only [List.length_set, Array.length_toList]
  exact pInit_size r q
theorem pInit_at (r q : Value) : (pInit r q).toList[15]? = some (.bool false) ∧ (pInit r q).toList[20]? = some r ∧ (pInit r q).toList[21]? = some (.int .i64 0) ∧ (pInit r q).toList[22]? = some (.int .i64 0) ∧ (pInit r q).toList[23]? = some (.int .i64 0) := by
  refine ⟨?_, ?_, ?_, ?_, ?_⟩ <;> kernel_rfl
/-- What a parser holds as it starts. -/
structure AtStart (L : List Value) : Prop where
  a19 : L[19]? = some (.int .i64 0)
  a24 : L[24]? = some (.int .i64 0)
  a25 : L[25]? = some (.int .i64 0)
  a26 : L[26]? = some (.int .i64 0)
  cells : Cells L
theorem pInit_ats (r q : Value) : (pInit r q).toList[16]? = some q ∧ (pInit r q).toList[17]? = some (.int .i64 0) ∧ (pInit r q).toList[18]? = some (.int .i64 0) ∧ (pInit r q).toList[19]? = some (.int .i64 0) ∧ (pInit r q).toList[24]? = some (.int .i64 0) ∧ (pInit r q).toList[25]? = some (.int .i64 0) ∧ (pInit r q).toList[26]? = some (.int .i64 0) := by
  refine ⟨?_, ?_, ?_, ?_, ?_, ?_, ?_⟩ <;> kernel_rfl
theorem pInit_lo (r q : Value) : (pInit r q).toList[0]? = some (.int .i64 0) ∧ (pInit r q).toList[1]? = some (.string ⟨#[]⟩) ∧ (pInit r q).toList[2]? = some (.int .i64 0) ∧ (pInit r q).toList[3]? = some (.int .i64 0) ∧ (pInit r q).toList[4]? = some (.int .i64 0) ∧ (pInit r q).toList[5]? = some (.int .i64 0) ∧ (pInit r q).toList[6]? = some (.int .i64 0) ∧ (pInit r q).toList[7]? = some (.string ⟨#[]⟩) ∧ (pInit r q).toList[8]? = some (.int .i64 0) ∧ (pInit r q).toList[9]? = some (.int .i64 0) ∧ (pInit r q).toList[10]? = some (.int .i64 0) := by
  refine ⟨?_, ?_, ?_, ?_, ?_, ?_, ?_, ?_, ?_, ?_, ?_⟩ <;> kernel_rfl
theorem pStart_no (T r q : Value) : ∀ j, j ≠ 11 → j ≠ 13 → j ≠ 14 → (pStart T r q)[j]? = (pInit r q).toList[j]? := fun j h1 h2 h3 => by
  unfold pStart
  rw [List.getElem?_set_ne (Ne.symm h3), List.getElem?_set_ne (Ne.symm h2), List.getElem?_set_ne (Ne.symm h1)]
theorem pStart_at (T r q : Value) : AtStart (pStart T r q) := by
  obtain ⟨i16, i17, i18, i19, i24, i25, i26⟩ := pInit_ats r q
  obtain ⟨i0, i1, i2, i3, i4, i5, i6, i7, i8, i9, i10⟩ := pInit_lo r q
  have no := pStart_no T r q
  refine ⟨(no 19 (by omega) (by omega) (by omega)).trans i19, (no 24 (by omega) (by omega) (by omega)).trans i24, (no 25 (by omega) (by omega) (by omega)).trans i25, (no 26 (by omega) (by omega) (by omega)).trans i26, ⟨pStart_len T r q, ⟨_, (no 0 (by omega) (by omega) (by omega)).trans i0⟩, ⟨_, (no 1 (by omega) (by omega) (by omega)).trans i1⟩, ⟨_, (no 2 (by omega) (by omega) (by omega)).trans i2⟩, ⟨_, (no 3 (by omega) (by omega) (by omega)).trans i3⟩, ⟨_, (no 4 (by omega) (by omega) (by omega)).trans i4⟩, ⟨_, (no 5 (by omega) (by omega) (by omega)).trans i5⟩, ⟨_, (no 6 (by omega) (by omega) (by omega)).trans i6⟩, ⟨_, (no 7 (by omega) (by omega) (by omega)).trans i7⟩, ⟨_, (no 8 (by omega) (by omega) (by omega)).trans i8⟩, ⟨_, (no 9 (by omega) (by omega) (by omega)).trans i9⟩, ⟨_, (no 10 (by omega) (by omega) (by omega)).trans i10⟩⟩⟩
/-- A reader at its text's beginning. -/
theorem start_rdr (A : Option Addr) (T : List Int) (ci : Nat) (E : Value) (w w1 : World) (p r q : Nat) (hE : w.cell? ⟨2, 0, none⟩ = some E) (hEof : IsEof E) (hin : In w A T) (hG : Rdp.Good T) (htl : T.length ≤ 2147483647) (htc : T.length ≤ ci) (hp : w.heap.size ≤ p) (hpr : p < r) (hpq : p < q) (hrq : r ≠ q) (hbr : Bk w1 r 5 (zeros 512)) (hbq : Bk w1 q 5 (zeros 1536))
    (hbp : Bk w1 p 120 (pStart (.slice A T.length ci) (.slice (some ⟨r, 0, none⟩) 0 512) (.slice (some ⟨q, 0, none⟩) 0 1536))) (hbel : Below w.heap.size w w1) :
    Rdr ⟨r, q, A, T, ci, E⟩ p 0 0 0 0 (pStart (.slice A T.length ci) (.slice (some ⟨r, 0, none⟩) 0 512) (.slice (some ⟨q, 0, none⟩) 0 1536)) w1 := by
  have hg : 2 < w.heap.size := World.block_lt_of_cell? w ⟨2, 0, none⟩ hE
  have hl := pStart_len (.slice A T.length ci) (.slice (some ⟨r, 0, none⟩) 0 512) (.slice (some ⟨q, 0, none⟩) 0 1536)
  have hi := pInit_size (.slice (some ⟨r, 0, none⟩) 0 512) (.slice (some ⟨q, 0, none⟩) 0 1536)
  obtain ⟨i15, i20, i21, i22, i23⟩ := pInit_at (.slice (some ⟨r, 0, none⟩) 0 512) (.slice (some ⟨q, 0, none⟩) 0 1536)
  obtain ⟨i16, i17, i18, i19, i24, i25, i26⟩ := pInit_ats (.slice (some ⟨r, 0, none⟩) 0 512) (.slice (some ⟨q, 0, none⟩) 0 1536)
  have no := pStart_no (.slice A T.length ci) (.slice (some ⟨r, 0, none⟩) 0 512) (.slice (some ⟨q, 0, none⟩) 0 1536)
  have hin1 : In w1 A T := by
    rcases hin with h | ⟨b, o, e, h1, h2⟩
    · exact .inl h
    · exact .inr ⟨b, o, e, by have := hbel.size; omega, fun i hi => by rw [hbel.cell (p := ⟨b, o + i, none⟩) h1]; exact h2 i hi⟩
  have hA1 : ∀ b o, A = some ⟨b, o, none⟩ → 0 < T.length → b ∉ [p, r, q] := fun b o e h0 => by
    rcases hin with h | ⟨b', o', e', h1, _⟩
    · omega
    · rw [e] at e'
      simp only [Option.some.injEq, Addr.mk.injEq] at e'
      simp
      omega
  refine ⟨⟨by show p ≠ r; omega, by show p ≠ q; omega, hrq, by unfold Kn.bs; simp; omega, hA1, hEof, hG, htl, htc⟩, (no 16 (by omega) (by omega) (by omega)).trans i16, fun _ => .zero, 0, 0, 0, false, zeros 512, zeros 1536, false, ⟨hbp, hl, hbr, by unfold zeros; exact List.length_replicate, hbq, by unfold zeros; exact List.length_replicate, ?_, hin1, ?_, ?_, ?_, ?_, (no 15 (by omega) (by omega) (by omega)).trans i15, (no 17 (by omega) (by omega) (by omega)).trans i17, (no 18 (by omega) (by omega) (by omega)).trans i18, (no 20 (by omega) (by omega) (by omega)).trans i20, (no 21 (by omega) (by omega) (by omega)).trans i21, (no 23 (by omega) (by omega) (by omega)).trans i23, Nat.zero_le _, by omega, Nat.le_refl _, by omega, Nat.le_refl _, by omega, fun i hi => by omega, fun j hj => by omega⟩, (no 22 (by omega) (by omega) (by omega)).trans i22, .inl ⟨⟨rfl, rfl, .zero⟩, rfl, fun _ => ⟨rfl, rfl, rfl, rfl, rfl, rfl, rfl⟩⟩⟩
  · intro i hi
    refine ⟨0, ?_⟩
    unfold zeros
    rw [List.getElem?_replicate, if_pos hi]
    rfl
  · rw [hbel.cell (p := ⟨2, 0, none⟩) hg]; exact hE
  · unfold pStart; rw [List.getElem?_set_ne (by omega), List.getElem?_set_ne (by omega), List.getElem?_set_self (by rw [Array.length_toList]; omega)]
  · unfold pStart; rw [List.getElem?_set_ne (by omega), List.getElem?_set_self (by rw [List.length_set, Array.length_toList]; omega)]
  · unfold pStart; rw [List.getElem?_set_self (by rw [List.length_set, List.length_set, Array.length_toList]; omega)]; rfl
set_option maxHeartbeats 1000000 in
theorem pmark_any (p : Nat) (L : List Value) (y0 y1 y2 : Int) (w : World) (h : Bk w p 120 L) (h24 : L[24]? = some (.int .i64 y0)) (h25 : L[25]? = some (.int .i64 y1)) (h26 : L[26]? = some (.int .i64 y2)) :
    Calls Tryd.prog 37 #[.pointer (some ⟨p, 0, none⟩)] w fun e w' => e = .returned (.agg #[.int .i64 y0, .int .i64 y1, .int .i64 y2]) ∧ Below w.heap.size w w' := by
  have hlt := h.lt
  have n1 : ¬ p = w.heap.size := by omega
  have n2 : ¬ w.heap.size = p := by omega
  obtain ⟨c24, f24⟩ := at_ h 24 h24
  obtain ⟨c25, f25⟩ := at_ h 25 h25
  obtain ⟨c26, f26⟩ := at_ h 26 h26
  clear h h24 h25 h26
  go_enter Tryd.func37, Tryd.ntmps37
  go_wp2_with fail
  refine (zmark_any _ _ _ _).mono ?_
  rintro e w1 ⟨rfl, hb⟩
  have hbk : Bk w1 w.heap.size 70 (tri 0 0 0) := (Bk.new w (tri 0 0 0) 70).kp (Kp.of_below (ps := []) hb) (by simp)
  obtain ⟨q0, g0⟩ := at_ hbk 0 rfl
  obtain ⟨q1, g1⟩ := at_ hbk 1 rfl
  obtain ⟨q2, g2⟩ := at_ hbk 2 rfl
  have hb3 := ((hbk.set 0 (.int .i64 y0)).set 1 (.int .i64 y1)).set 2 (.int .i64 y2)
  have r0 := (at_ hb3 0 rfl).1
  have r1 := (at_ hb3 1 rfl).1
  have r2 := (at_ hb3 2 rfl).1
  have HR0 := Lib.hid r0
  have HR1 := Lib.hid r1
  have HR2 := Lib.hid r2
  clear hbk hb3 r0 r1 r2
  have HB := Lib.hid hb
  clear hb
  go_wp2_with fail
  (try simp only [Exit.inBlock, Exit.then])
  refine bodyPost_ret (by simp [results, Tryd.results37, HR0.out, HR1.out, HR2.out, go_sem]; try rfl) rfl ?_
  have h1 : Below w.heap.size w w1 := ((Below.refl _ _).alloc (Nat.le_refl _) _).trans (HB.out.mono (by simp))
  exact ⟨rfl, ((h1.setCell (p := ⟨w.heap.size, 0, none⟩) (Nat.le_refl _) _).setCell (p := ⟨w.heap.size, 1, none⟩) (Nat.le_refl _) _).setCell (p := ⟨w.heap.size, 2, none⟩) (Nat.le_refl _) _⟩
set_option maxHeartbeats 1000000 in
theorem zver_any (p : Nat) (m1 m2 : Value) (b : Bool) (L : List Value) (y0 y1 y2 : Int) (w : World) (Q : World → Prop) (h : Bk w p 120 L) (h24 : L[24]? = some (.int .i64 y0)) (h25 : L[25]? = some (.int .i64 y1)) (h26 : L[26]? = some (.int .i64 y2))
    (hc : Calls Tryd.prog 64 #[.pointer (some ⟨p, 0, none⟩), .agg #[.int .i64 y0, .int .i64 y1, .int .i64 y2], m1, m2] w fun e w' => e = .returned (.bool b) ∧ Q w') :
    Calls Tryd.prog 34 #[.pointer (some ⟨p, 0, none⟩), m1, m2] w fun e w' => e = .returned (.bool b) ∧ Q w' := by
  obtain ⟨c24, f24⟩ := at_ h 24 h24
  obtain ⟨c25, f25⟩ := at_ h 25 h25
  obtain ⟨c26, f26⟩ := at_ h 26 h26
  have HC := Lib.hid hc
  clear h h24 h25 h26 hc
  go_enter Tryd.func34, Tryd.ntmps34
  go_wp2_with fail
  refine HC.out.mono ?_
  rintro e w1 ⟨rfl, hq⟩
  have HQ := Lib.hid hq
  clear hq
  go_wp2_with fail
  go_returns
  exact ⟨rfl, HQ.out⟩
end Go.Proofs.YtocbbekciphjgaaDoor.Sc
