/- Which encoding a text is taken for (impl.Encoding), and what the reference says (spec.Marked): the walks. -/
import Derived.Test.YtocbbekciphjgaaDoorPaF
namespace Go.Proofs.YtocbbekciphjgaaDoor.Pa
open Go.RowKit
set_option linter.unusedVariables false
set_option linter.unusedSimpArgs false
set_option maxHeartbeats 400000 in
theorem zdet_any (p r : Nat) (A : Option Addr) (T : List Int) (ci : Nat) (L RL : List Value) (E : Value) (w : World) (hEof : IsEof E) (hg : 2 < w.heap.size) (hgp : 2 ∉ [p, r]) (hA : ∀ b o, A = some ⟨b, o, none⟩ → 0 < T.length → b ∉ [p, r])
    (h : Seen p r A T ci E L L RL 0 false w w) :
    Calls Tryd.prog 32 #[.pointer (some ⟨p, 0, none⟩)] w fun e w' => e = .returned (.bool true) ∧ Told p r A T ci E L w w' := by
  have hd := det_any p r A T ci L RL E w hEof hg hgp hA h
  have HD := Lib.hid hd
  clear hd hEof hgp hA h
  go_enter Tryd.func32, Tryd.ntmps32
  go_wp2_with fail
  refine HD.out.mono ?_
  rintro e w1 ⟨rfl, h1⟩
  have H1 := Lib.hid h1
  clear h1
  go_wp2_with fail
  go_ret
  exact ⟨rfl, H1.out⟩
set_option maxHeartbeats 400000 in
theorem found_any (p : Nat) (L : List Value) (a b : Int) (w : World) (h : Bk w p 120 L) (h22 : L[22]? = some (.int .i64 a)) (h23 : L[23]? = some (.int .i64 b)) :
    Calls Tryd.prog 33 #[.pointer (some ⟨p, 0, none⟩)] w fun e w' => e = .returned (.tuple #[.int .i64 a, .int .i64 b]) ∧ ∃ n, w' = w.drewN n := by
  obtain ⟨c22, _⟩ := h.cell 22
  obtain ⟨c23, _⟩ := h.cell 23
  rw [h22] at c22
  rw [h23] at c23
  clear h h22 h23
  go_enter Tryd.func33, Tryd.ntmps33
  go_wp2_with fail
  go_quiet (fail)
  go_wp2_with fail
  go_ret2
  exact ⟨rfl, _, rfl⟩
theorem pStart_len (T r q : Value) : (pStart T r q).length = 52 := by
  unfold pStart
  simp only [List.length_set, Array.length_toList]
  exact pInit_size r q
theorem pInit_at (r q : Value) : (pInit r q).toList[15]? = some (.bool false) ∧ (pInit r q).toList[20]? = some r ∧ (pInit r q).toList[21]? = some (.int .i64 0) ∧ (pInit r q).toList[22]? = some (.int .i64 0) ∧ (pInit r q).toList[23]? = some (.int .i64 0) := by
  refine ⟨?_, ?_, ?_, ?_, ?_⟩ <;> kernel_rfl
set_option maxHeartbeats 1000000 in
theorem enc_any (A : Option Addr) (T : List Int) (ci : Nat) (E : Value) (w : World) (hE : w.cell? ⟨2, 0, none⟩ = some E) (hEof : IsEof E) (hin : In w A T) (htl : T.length ≤ 2147483647) (htc : T.length ≤ ci) :
    Calls Tryd.prog 11 #[.slice A T.length ci] w fun e w' => e = .returned (.tuple #[.int .i64 (mk T).1, .int .i64 (mk T).2]) ∧ Below w.heap.size w w' := by
  have hg : 2 < w.heap.size := World.block_lt_of_cell? w ⟨2, 0, none⟩ hE
  have HE := Lib.hid hE
  have HEE := Lib.hid hEof
  have HIN := Lib.hid hin
  clear hE hEof hin
  go_enter Tryd.func11, Tryd.ntmps11
  go_wp2_with fail
  refine (started_any A T.length ci w).mono ?_
  rintro e w1 ⟨p, r, q, rfl, hp, hpr, hpq, hrq, hbr, hbq, hbp, hbel⟩
  have hs1 := hbel.size
  have hA1 : ∀ b o, A = some ⟨b, o, none⟩ → 0 < T.length → b ∉ [p, r] := fun b o e h0 => by
    rcases HIN.out with h | ⟨b', o', e', h1, _⟩
    · omega
    · rw [e] at e'
      simp only [Option.some.injEq, Addr.mk.injEq] at e'
      simp
      omega
  have hseen : Seen p r A T ci E (pStart (.slice A T.length ci) (.slice (some ⟨r, 0, none⟩) 0 512) (.slice (some ⟨q, 0, none⟩) 0 1536)) (pStart (.slice A T.length ci) (.slice (some ⟨r, 0, none⟩) 0 512) (.slice (some ⟨q, 0, none⟩) 0 1536)) (zeros 512) 0 false w1 w1 := by
    have hl := pStart_len (.slice A T.length ci) (.slice (some ⟨r, 0, none⟩) 0 512) (.slice (some ⟨q, 0, none⟩) 0 1536)
    have hi := pInit_size (.slice (some ⟨r, 0, none⟩) 0 512) (.slice (some ⟨q, 0, none⟩) 0 1536)
    obtain ⟨i15, i20, i21, i22, i23⟩ := pInit_at (.slice (some ⟨r, 0, none⟩) 0 512) (.slice (some ⟨q, 0, none⟩) 0 1536)
    have no : ∀ j, j ≠ 11 → j ≠ 13 → j ≠ 14 → (pStart (.slice A T.length ci) (.slice (some ⟨r, 0, none⟩) 0 512) (.slice (some ⟨q, 0, none⟩) 0 1536))[j]? = (pInit (.slice (some ⟨r, 0, none⟩) 0 512) (.slice (some ⟨q, 0, none⟩) 0 1536)).toList[j]? := fun j h1 h2 h3 => by
      unfold pStart
      rw [List.getElem?_set_ne (Ne.symm h3), List.getElem?_set_ne (Ne.symm h2), List.getElem?_set_ne (Ne.symm h1)]
    have hin1 : In w1 A T := by
      rcases HIN.out with h | ⟨b, o, e, h1, h2⟩
      · exact .inl h
      · exact .inr ⟨b, o, e, by omega, fun i hi => by rw [hbel.cell (p := ⟨b, o + i, none⟩) h1]; exact h2 i hi⟩
    refine ⟨⟨hbp, hl, hbr, by unfold zeros; exact List.length_replicate, hin1, htl, htc, ?_, ?_, ?_, (no 15 (by omega) (by omega) (by omega)).trans i15, (no 20 (by omega) (by omega) (by omega)).trans i20, (no 21 (by omega) (by omega) (by omega)).trans i21, Nat.zero_le _, by omega, Nat.le_refl _, by omega, fun j _ h => by omega⟩, fun j h => by omega, fun _ _ _ _ _ => rfl, Kp.refl _ _, rfl, ?_, (no 22 (by omega) (by omega) (by omega)).trans i22, (no 23 (by omega) (by omega) (by omega)).trans i23⟩
    · unfold pStart; rw [List.getElem?_set_ne (by omega), List.getElem?_set_ne (by omega), List.getElem?_set_self (by rw [Array.length_toList]; omega)]
    · unfold pStart; rw [List.getElem?_set_ne (by omega), List.getElem?_set_self (by rw [List.length_set, Array.length_toList]; omega)]
    · unfold pStart; rw [List.getElem?_set_self (by rw [List.length_set, List.length_set, Array.length_toList]; omega)]; rfl
    · rw [hbel.cell (p := ⟨2, 0, none⟩) hg]; exact HE.out
  have HSE := Lib.hid hseen
  have HB := Lib.hid hbel
  clear hseen hbr hbq hbp hbel
  go_wp2_with fail
  refine (zdet_any p r A T ci _ _ E w1 HEE.out (by omega) (by simp; omega) hA1 HSE.out).mono ?_
  rintro e w2 ⟨rfl, htold⟩
  obtain ⟨L2, RL2, rl2, eof2, env2, _, _, h22, h23, _⟩ := htold.ex
  have HB2 := Lib.hid (HB.out.trans (htold.kp.below hs1 (by simp; omega)))
  have HP := Lib.hid env2.pb
  have H22 := Lib.hid h22
  have H23 := Lib.hid h23
  clear htold env2 h22 h23 hA1
  go_wp2_with fail
  refine (found_any p L2 _ _ w2 HP.out H22.out H23.out).mono ?_
  rintro e w3 ⟨rfl, n, rfl⟩
  go_wp2_with fail
  go_ret2
  have := HB2.out
  exact ⟨rfl, ⟨this.os, this.tape, this.output, this.size, this.block⟩⟩
end Go.Proofs.YtocbbekciphjgaaDoor.Pa
