/- PaFb: parts of the proof, one behind another. -/
import Derived.Deep.LoopGhost
import Derived.Test.YtocbbekciphjgaaDoorMz3
/- PaFb -/
/- The encoding is told by the first bytes (yaml_parser_determine_encoding): the walk. -/
namespace Go.Proofs.YtocbbekciphjgaaDoor.Pa
open Go.RowKit
set_option linter.unusedVariables false
set_option linter.unusedSimpArgs false
/-- What a byte order mark tells: the encoding, and how many bytes it has. -/
def mk (T : List Int) : Nat × Nat :=
  if 2 ≤ T.length ∧ T.getD 0 0 = 255 ∧ T.getD 1 0 = 254 then (2, 2) else if 2 ≤ T.length ∧ T.getD 0 0 = 254 ∧ T.getD 1 0 = 255 then (3, 2)
  else if 3 ≤ T.length ∧ T.getD 0 0 = 239 ∧ T.getD 1 0 = 187 ∧ T.getD 2 0 = 191 then (1, 3) else (1, 0)
/-- A parser that has read some of its text, and has looked at none of it. -/
structure Seen (p r : Nat) (A : Option Addr) (T : List Int) (ci : Nat) (E : Value) (L0 L RL : List Value) (rl : Nat) (eof : Bool) (w0 w : World) : Prop where
  env : Env p r A T ci L RL rl 0 rl eof w
  raw : ∀ j, j < rl → RL[j]? = some (.int .u8 (T.getD j 0))
  old : ∀ j, j ≠ 14 → j ≠ 15 → j ≠ 20 → j ≠ 21 → L[j]? = L0[j]?
  kp : Kp [p, r] w0 w
  size : w.heap.size = w0.heap.size
  ev : w.cell? ⟨2, 0, none⟩ = some E
  at22 : L[22]? = some (.int .i64 0)
  at23 : L[23]? = some (.int .i64 0)
theorem Seen.drewN {p r : Nat} {A : Option Addr} {T : List Int} {ci : Nat} {E : Value} {L0 L RL : List Value} {rl : Nat} {eof : Bool} {w0 w : World} (h : Seen p r A T ci E L0 L RL rl eof w0 w) (n : Nat) : Seen p r A T ci E L0 L RL rl eof w0 (w.drewN n) :=
  ⟨⟨h.env.pb, h.env.plen, h.env.rb, h.env.rlen, h.env.inp, h.env.tlen, h.env.tcap, h.env.at11, h.env.at13, h.env.at14, h.env.at15, h.env.at20, h.env.at21, h.env.hip, h.env.hrl, h.env.hrpos, h.env.ne, h.env.raw⟩, h.raw, h.old, h.kp.drewN n, h.size, h.ev, h.at22, h.at23⟩
theorem Seen.filled {p r : Nat} {A : Option Addr} {T : List Int} {ci : Nat} {E : Value} {L0 L RL : List Value} {rl : Nat} {w0 w w' : World} (h : Seen p r A T ci E L0 L RL rl false w0 w) (hf : Filled p r T L RL rl 0 rl w w') (hg : 2 < w.heap.size) (hgp : 2 ∉ [p, r]) (hA : ∀ b o, A = some ⟨b, o, none⟩ → 0 < T.length → b ∉ [p, r]) :
    ∃ L' RL', Seen p r A T ci E L0 L' RL' (rl + min (512 - rl) (T.length - rl)) (decide (rl = T.length)) w0 w' := by
  obtain ⟨L', RL', pb, pl, rb, rn, a14, a15, a20, a21, ao, ro, rs⟩ := hf.ex
  have hi := h.env.hip
  have hr := h.env.hrl
  refine ⟨L', RL', ⟨pb, pl, rb, rn, h.env.inp.kp hf.kp hA, h.env.tlen, h.env.tcap, ?_, ?_, ?_, a15, ?_, a21, by omega, by omega, by omega, h.env.ne, fun j _ hj => ?_⟩, fun j hj => ?_, fun j h1 h2 h3 h4 => (ao j h1 h2 h3 h4).trans (h.old j h1 h2 h3 h4), h.kp.trans hf.kp, hf.size.trans h.size, (hf.kp.cell (x := ⟨2, 0, none⟩) hg hgp).trans h.ev, ?_, ?_⟩
  · rw [ao 11 (by omega) (by omega) (by omega) (by omega)]; exact h.env.at11
  · rw [ao 13 (by omega) (by omega) (by omega) (by omega)]; exact h.env.at13
  · rw [a14, Nat.sub_zero]
  · rw [a20, Nat.sub_zero]
  · by_cases hjl : j < rl
    · exact ⟨_, (ro j (by omega)).trans (by rw [Nat.zero_add]; exact h.raw j hjl)⟩
    · have := rs (j - rl) (by omega)
      rw [show rl - 0 + (j - rl) = j by omega] at this
      exact ⟨_, this⟩
  · by_cases hjl : j < rl
    · exact (ro j (by omega)).trans (by rw [Nat.zero_add]; exact h.raw j hjl)
    · have := rs (j - rl) (by omega)
      rw [show rl - 0 + (j - rl) = j by omega, show rl + (j - rl) = j by omega] at this
      exact this
  · rw [ao 22 (by omega) (by omega) (by omega) (by omega)]; exact h.at22
  · rw [ao 23 (by omega) (by omega) (by omega) (by omega)]; exact h.at23
/-- A parser that knows its encoding. -/
structure Told (p r : Nat) (A : Option Addr) (T : List Int) (ci : Nat) (E : Value) (L0 : List Value) (w0 w' : World) : Prop where
  ex : ∃ L RL rl eof, Env p r A T ci L RL rl (mk T).2 rl eof w' ∧ (∀ j, j < rl → RL[j]? = some (.int .u8 (T.getD j 0))) ∧ (∀ j, j ≠ 14 → j ≠ 15 → j ≠ 20 → j ≠ 21 → j ≠ 22 → j ≠ 23 → L[j]? = L0[j]?) ∧
    L[22]? = some (.int .i64 (mk T).1) ∧ L[23]? = some (.int .i64 (mk T).2) ∧ (eof = true ∨ 3 ≤ rl) ∧ (eof = true → rl = T.length)
  kp : Kp [p, r] w0 w'
  size : w'.heap.size = w0.heap.size
  ev : w'.cell? ⟨2, 0, none⟩ = some E
theorem told_of {p r : Nat} {A : Option Addr} {T : List Int} {ci : Nat} {E : Value} {L0 L RL : List Value} {rl : Nat} {eof : Bool} {w0 w : World} (h : Seen p r A T ci E L0 L RL rl eof w0 w) (hA : ∀ b o, A = some ⟨b, o, none⟩ → 0 < T.length → b ∉ [p, r]) (hg : 2 ≠ p) (he : eof = true ∨ 3 ≤ rl) (hfin : eof = true → rl = T.length) (a b : Nat) (hm : mk T = (a, b)) (hb : b ≤ rl) :
    Told p r A T ci E L0 w0 (((w.setCell ⟨p, 22, none⟩ (.int .i64 a)).setCell ⟨p, 21, none⟩ (.int .i64 b)).setCell ⟨p, 23, none⟩ (.int .i64 b)) := by
  have hl := h.env.plen
  have st : ∀ (w : World) (i : Nat) (v : Value), In w A T → In (w.setCell ⟨p, i, none⟩ v) A T := fun w i v hi => hi.kp ((Kp.refl [p, r] w).setCell p i v (by simp)) hA
  have ev : ∀ (w : World) (i : Nat) (v : Value), (w.setCell ⟨p, i, none⟩ v).cell? ⟨2, 0, none⟩ = w.cell? ⟨2, 0, none⟩ := fun w i v => World.cell?_of_block (w := w) (a := ⟨2, 0, none⟩) (Below.heap_setCell w ⟨p, i, none⟩ v _ hg)
  have rb : ∀ (w : World) (i : Nat) (v : Value) (M : List Value), Bk w r 5 M → Bk (w.setCell ⟨p, i, none⟩ v) r 5 M := fun w i v M hM => hM.other p i v (Ne.symm h.env.ne)
  have no : ∀ j, j ≠ 21 → j ≠ 22 → j ≠ 23 → (((L.set 22 (.int .i64 a)).set 21 (.int .i64 b)).set 23 (.int .i64 b))[j]? = L[j]? := fun j h1 h2 h3 => by
    rw [List.getElem?_set_ne (Ne.symm h3), List.getElem?_set_ne (Ne.symm h1), List.getElem?_set_ne (Ne.symm h2)]
  refine ⟨⟨((L.set 22 (.int .i64 a)).set 21 (.int .i64 b)).set 23 (.int .i64 b), RL, rl, eof, ⟨((h.env.pb.set 22 _).set 21 _).set 23 _, by simp; exact hl, rb _ _ _ _ (rb _ _ _ _ (rb _ _ _ _ h.env.rb)), h.env.rlen, st _ _ _ (st _ _ _ (st _ _ _ h.env.inp)), h.env.tlen, h.env.tcap, ?_, ?_, ?_, ?_, ?_, ?_, h.env.hip, h.env.hrl, by rw [hm]; exact hb, h.env.ne, fun j _ hj => ⟨_, h.raw j hj⟩⟩, h.raw, fun j h1 h2 h3 h4 h5 h6 => (no j h4 h5 h6).trans (h.old j h1 h2 h3 h4), ?_, ?_, he, hfin⟩, ?_, by simpa using h.size, by rw [ev, ev, ev]; exact h.ev⟩
  · rw [no 11 (by omega) (by omega) (by omega)]; exact h.env.at11
  · rw [no 13 (by omega) (by omega) (by omega)]; exact h.env.at13
  · rw [no 14 (by omega) (by omega) (by omega)]; exact h.env.at14
  · rw [no 15 (by omega) (by omega) (by omega)]; exact h.env.at15
  · rw [no 20 (by omega) (by omega) (by omega)]; exact h.env.at20
  · rw [hm, List.getElem?_set_ne (by omega), List.getElem?_set_self (by simp; omega)]
  · rw [hm, List.getElem?_set_ne (by omega), List.getElem?_set_ne (by omega), List.getElem?_set_self (by omega)]
  · rw [hm, List.getElem?_set_self (by simp; omega)]
  · exact ((h.kp.setCell p 22 _ (by simp)).setCell p 21 _ (by simp)).setCell p 23 _ (by simp)
theorem told_of0 {p r : Nat} {A : Option Addr} {T : List Int} {ci : Nat} {E : Value} {L0 L RL : List Value} {rl : Nat} {eof : Bool} {w0 w : World} (h : Seen p r A T ci E L0 L RL rl eof w0 w) (hA : ∀ b o, A = some ⟨b, o, none⟩ → 0 < T.length → b ∉ [p, r]) (hg : 2 ≠ p) (he : eof = true ∨ 3 ≤ rl) (hfin : eof = true → rl = T.length) (a : Nat) (hm : mk T = (a, 0)) :
    Told p r A T ci E L0 w0 (w.setCell ⟨p, 22, none⟩ (.int .i64 a)) := by
  have hl := h.env.plen
  have no : ∀ j, j ≠ 22 → (L.set 22 (.int .i64 a))[j]? = L[j]? := fun j h2 => List.getElem?_set_ne (Ne.symm h2)
  refine ⟨⟨L.set 22 (.int .i64 a), RL, rl, eof, ⟨h.env.pb.set 22 _, by simp; exact hl, h.env.rb.other p 22 _ (Ne.symm h.env.ne), h.env.rlen, h.env.inp.kp ((Kp.refl [p, r] w).setCell p 22 _ (by simp)) hA, h.env.tlen, h.env.tcap, ?_, ?_, ?_, ?_, ?_, ?_, h.env.hip, h.env.hrl, by rw [hm]; exact Nat.zero_le _, h.env.ne, fun j _ hj => ⟨_, h.raw j hj⟩⟩, h.raw, fun j h1 h2 h3 h4 h5 h6 => (no j h5).trans (h.old j h1 h2 h3 h4), ?_, ?_, he, hfin⟩, h.kp.setCell p 22 _ (by simp), by simpa using h.size, ?_⟩
  · rw [no 11 (by omega)]; exact h.env.at11
  · rw [no 13 (by omega)]; exact h.env.at13
  · rw [no 14 (by omega)]; exact h.env.at14
  · rw [no 15 (by omega)]; exact h.env.at15
  · rw [no 20 (by omega)]; exact h.env.at20
  · rw [hm, no 21 (by omega)]; exact h.env.at21
  · rw [hm, List.getElem?_set_self (by omega)]
  · rw [hm, no 23 (by omega)]; exact h.at23
  · rw [World.cell?_of_block (w := w) (a := ⟨2, 0, none⟩) (Below.heap_setCell w ⟨p, 22, none⟩ _ _ hg)]; exact h.ev
set_option maxHeartbeats 8000000 in
set_option maxRecDepth 100000 in
theorem det_any (p r : Nat) (A : Option Addr) (T : List Int) (ci : Nat) (L RL : List Value) (E : Value) (w : World) (hEof : IsEof E) (hg : 2 < w.heap.size) (hgp : 2 ∉ [p, r]) (hA : ∀ b o, A = some ⟨b, o, none⟩ → 0 < T.length → b ∉ [p, r])
    (h : Seen p r A T ci E L L RL 0 false w w) :
    Calls Tryd.prog 63 #[.pointer (some ⟨p, 0, none⟩)] w fun e w' => e = .returned (.bool true) ∧ Told p r A T ci E L w w' := by
  have htl := h.env.tlen
  have HSE := Lib.hid h
  have HEE := Lib.hid hEof
  have HA := Lib.hid hA
  have HG := Lib.hid hgp
  have hg1 : 2 ≠ p := fun e => hgp (by simp [e])
  have HG1 := Lib.hid hg1
  clear h hEof hA hgp hg1
  go_enter Tryd.func63, Tryd.ntmps63
  go_wp2_with fail
  go_loopg [] (T.length + 1) (fun g wr => ∃ L' RL' rl eof, Seen p r A T ci E L L' RL' rl eof w wr ∧ (eof = true → rl = T.length) ∧ (T.length - rl) + (if eof then 0 else 1) ≤ g)
  case atStart => exact ⟨L, RL, 0, false, HSE.out, by simp, by simp⟩
  case round =>
    obtain ⟨L1, RL1, rl, eof, hs1, he1, hm1⟩ := hrel
    have HS := Lib.hid hs1
    have HE1 := Lib.hid he1
    have HM1 := Lib.hid hm1
    have hrl := hs1.env.hrl
    have hip := hs1.env.hip
    obtain ⟨c15, _⟩ := hs1.env.pb.cell 15
    obtain ⟨c20, _⟩ := hs1.env.pb.cell 20
    obtain ⟨c21, f21⟩ := hs1.env.pb.cell 21
    rw [hs1.env.at15] at c15
    rw [hs1.env.at20] at c20
    rw [hs1.env.at21] at c21
    clear hs1 he1 hm1
    by_cases hgo : eof = false ∧ rl < 3
    · obtain ⟨rfl, h3⟩ := hgo
      have h3b : decide ((rl : Int) < 3) = true := by simp; omega
      go_wp2_with fail
      go_quiet (fail)
      have HS2 := Lib.hid (HS.out.drewN nq)
      clear HS c15 c20 c21 f21 h3b
      generalize wr.drewN nq = w2 at *
      go_wp2_with fail
      refine (ur_read p r A T ci L1 RL1 rl 0 rl E w2 HS2.out.ev HEE.out (by rw [HS2.out.size]; exact hg) HG.out HA.out HS2.out.env (by omega)).mono ?_
      rintro e w3 ⟨rfl, hf⟩
      obtain ⟨L2, RL2, hs3⟩ := HS2.out.filled hf (by rw [HS2.out.size]; exact hg) HG.out HA.out
      have HS3 := Lib.hid hs3
      clear hf hs3
      go_wp2_with fail
      go_roundg (gk - 1)
      case rel =>
        refine ⟨L2, RL2, _, _, HS3.out, ?_, ?_⟩
        · intro h
          have := of_decide_eq_true h
          omega
        · have := HM1.out
          simp only [Bool.false_eq_true, if_false] at this
          by_cases hh : rl = T.length
          · rw [decide_eq_true hh]; simp only [if_true]; omega
          · rw [decide_eq_false hh]; simp only [Bool.false_eq_true, if_false]; omega
      case measure => have := HM1.out; simp only [Bool.false_eq_true, if_false] at this; omega
    · have HFIN := Lib.hid HE1.out
      have hex : eof = true ∨ 3 ≤ rl := by
        cases eof with
        | true => exact .inl rfl
        | false => right; by_cases h : rl < 3; (exact absurd ⟨rfl, h⟩ hgo); omega
      have ht : (T.length < 3 → rl = T.length) ∧ (3 ≤ T.length → 3 ≤ rl) ∧ rl ≤ T.length := by
        have := HE1.out
        rcases hex with h | h
        · have := this h; omega
        · omega
      have HEX := Lib.hid hex
      have HT := Lib.hid ht
      have hbyte : ∀ j, j < rl → wr.cell? ⟨r, j, none⟩ = some (.int .u8 (T.getD j 0)) := fun j hj => by rw [(HS.out.env.rb.cell j).1]; exact HS.out.raw j hj
      obtain ⟨t0, ht0⟩ : ∃ t0, t0 = T.getD 0 0 := ⟨_, rfl⟩
      obtain ⟨t1, ht1⟩ : ∃ t1, t1 = T.getD 1 0 := ⟨_, rfl⟩
      obtain ⟨t2, ht2⟩ : ∃ t2, t2 = T.getD 2 0 := ⟨_, rfl⟩
      obtain ⟨c22, f22⟩ := HS.out.env.pb.cell 22
      obtain ⟨c23, f23⟩ := HS.out.env.pb.cell 23
      rw [HS.out.at22] at c22
      rw [HS.out.at23] at c23
      have hgo2 : eof = true ∨ (eof = false ∧ decide ((rl : Int) < 3) = false ∧ decide (rl < 3) = false) := by
        cases eof with
        | true => exact .inl rfl
        | false => exact .inr ⟨rfl, by simp; rcases hex with h | h; cases h; omega, by simp; rcases hex with h | h; cases h; omega⟩
      clear hex ht hgo
      rcases hgo2 with rfl | ⟨rfl, hd1, hd2⟩
      · skip
        by_cases r2 : rl < 2
        · have b2 : (decide ((2 : Int) ≤ (rl : Int))) = false := by simp; omega
          have b2n : (decide (2 ≤ rl)) = false := by simp; omega
          have b3 : (decide ((3 : Int) ≤ (rl : Int))) = false := by simp; omega
          have b3n : (decide (3 ≤ rl)) = false := by simp; omega
          have hmk : mk T = (1, 0) := by unfold mk; rw [if_neg (by have := HT.out; have := ht0; have := ht1; have := ht2; omega), if_neg (by have := HT.out; have := ht0; have := ht1; have := ht2; omega), if_neg (by have := HT.out; have := ht0; have := ht1; have := ht2; omega)]
          have HMK := Lib.hid hmk
          clear hmk ht0 ht1 ht2 hbyte
          try clear x
          try clear y
          try clear z
          try clear u
          try clear v
          try clear r3
          clear r2
          go_wp2_with fail
          go_quiet (fail)
          go_wp2_with fail
          go_quiet (fail)
          go_wp2_with fail
          go_quiet (fail)
          go_wp2_with fail
          go_quiet (fail)
          go_wp2_with fail
          go_ret
          exact ⟨rfl, told_of0 (HS.out.drewN _) HA.out HG1.out (by first | exact Or.inl rfl | (have h := HEX.out; simp at h; exact Or.inr h)) (by have h := HFIN.out; first | exact h | (simp at h ⊢; try exact h)) 1 HMK.out⟩
        have c0 := hbyte 0 (by omega)
        have c1 := hbyte 1 (by omega)
        rw [← ht0] at c0
        rw [← ht1] at c1
        by_cases r3 : rl < 3
        · by_cases x : t0 = 255
          · by_cases y : t1 = 254
            · have b2 : (decide ((2 : Int) ≤ (rl : Int))) = true := by simp; omega
              have b2n : (decide (2 ≤ rl)) = true := by simp; omega
              have b3 : (decide ((3 : Int) ≤ (rl : Int))) = false := by simp; omega
              have b3n : (decide (3 ≤ rl)) = false := by simp; omega
              have x0 : (t0 == ((((⟨#[255, 254]⟩ : ByteArray)[0]'(by decide)).toNat : Nat) : Int)) = true := (show (t0 == 255) = true from by simp; omega)
              have x1 : (t1 == ((((⟨#[255, 254]⟩ : ByteArray)[1]'(by decide)).toNat : Nat) : Int)) = true := (show (t1 == 254) = true from by simp; omega)
              have hmk : mk T = (2, 2) := by unfold mk; rw [if_pos (by have := HT.out; have := ht0; have := ht1; have := ht2; omega)]
              have HMK := Lib.hid hmk
              clear hmk ht0 ht1 ht2 hbyte
              try clear x
              try clear y
              try clear z
              try clear u
              try clear v
              have i0 : 0 < rl := by omega
              have i0i : (0 : Int) < (rl : Int) := by omega
              have i1 : 1 < rl := by omega
              have i1i : (1 : Int) < (rl : Int) := by omega
              try clear r3
              clear r2
              go_wp2_with fail
              go_quiet (fail)
              go_wp2_with fail
              go_quiet (fail)
              go_wp2_with fail
              go_ret
              exact ⟨rfl, told_of (HS.out.drewN _) HA.out HG1.out (by first | exact Or.inl rfl | (have h := HEX.out; simp at h; exact Or.inr h)) (by have h := HFIN.out; first | exact h | (simp at h ⊢; try exact h)) 2 2 HMK.out (by have := HT.out; omega)⟩
            · have b2 : (decide ((2 : Int) ≤ (rl : Int))) = true := by simp; omega
              have b2n : (decide (2 ≤ rl)) = true := by simp; omega
              have b3 : (decide ((3 : Int) ≤ (rl : Int))) = false := by simp; omega
              have b3n : (decide (3 ≤ rl)) = false := by simp; omega
              have x0 : (t0 == ((((⟨#[255, 254]⟩ : ByteArray)[0]'(by decide)).toNat : Nat) : Int)) = true := (show (t0 == 255) = true from by simp; omega)
              have x1 : (t1 == ((((⟨#[255, 254]⟩ : ByteArray)[1]'(by decide)).toNat : Nat) : Int)) = false := (show (t1 == 254) = false from by simp; omega)
              have x2 : (t0 == ((((⟨#[254, 255]⟩ : ByteArray)[0]'(by decide)).toNat : Nat) : Int)) = false := (show (t0 == 254) = false from by simp; omega)
              have x3 : (t0 == ((((⟨#[239, 187, 191]⟩ : ByteArray)[0]'(by decide)).toNat : Nat) : Int)) = false := (show (t0 == 239) = false from by simp; omega)
              have hmk : mk T = (1, 0) := by unfold mk; rw [if_neg (by have := HT.out; have := ht0; have := ht1; have := ht2; omega), if_neg (by have := HT.out; have := ht0; have := ht1; have := ht2; omega), if_neg (by have := HT.out; have := ht0; have := ht1; have := ht2; omega)]
              have HMK := Lib.hid hmk
              clear hmk ht0 ht1 ht2 hbyte
              try clear x
              try clear y
              try clear z
              try clear u
              try clear v
              have i0 : 0 < rl := by omega
              have i0i : (0 : Int) < (rl : Int) := by omega
              have i1 : 1 < rl := by omega
              have i1i : (1 : Int) < (rl : Int) := by omega
              try clear r3
              clear r2
              go_wp2_with fail
              go_quiet (fail)
              go_wp2_with fail
              go_quiet (fail)
              go_wp2_with fail
              go_quiet (fail)
              go_wp2_with fail
              go_quiet (fail)
              go_wp2_with fail
              go_ret
              exact ⟨rfl, told_of0 (HS.out.drewN _) HA.out HG1.out (by first | exact Or.inl rfl | (have h := HEX.out; simp at h; exact Or.inr h)) (by have h := HFIN.out; first | exact h | (simp at h ⊢; try exact h)) 1 HMK.out⟩
          by_cases y : t0 = 254
          · by_cases z : t1 = 255
            · have b2 : (decide ((2 : Int) ≤ (rl : Int))) = true := by simp; omega
              have b2n : (decide (2 ≤ rl)) = true := by simp; omega
              have b3 : (decide ((3 : Int) ≤ (rl : Int))) = false := by simp; omega
              have b3n : (decide (3 ≤ rl)) = false := by simp; omega
              have x0 : (t0 == ((((⟨#[255, 254]⟩ : ByteArray)[0]'(by decide)).toNat : Nat) : Int)) = false := (show (t0 == 255) = false from by simp; omega)
              have x1 : (t0 == ((((⟨#[254, 255]⟩ : ByteArray)[0]'(by decide)).toNat : Nat) : Int)) = true := (show (t0 == 254) = true from by simp; omega)
              have x2 : (t1 == ((((⟨#[254, 255]⟩ : ByteArray)[1]'(by decide)).toNat : Nat) : Int)) = true := (show (t1 == 255) = true from by simp; omega)
              have hmk : mk T = (3, 2) := by unfold mk; rw [if_neg (by have := HT.out; have := ht0; have := ht1; have := ht2; omega), if_pos (by have := HT.out; have := ht0; have := ht1; have := ht2; omega)]
              have HMK := Lib.hid hmk
              clear hmk ht0 ht1 ht2 hbyte
              try clear x
              try clear y
              try clear z
              try clear u
              try clear v
              have i0 : 0 < rl := by omega
              have i0i : (0 : Int) < (rl : Int) := by omega
              have i1 : 1 < rl := by omega
              have i1i : (1 : Int) < (rl : Int) := by omega
              try clear r3
              clear r2
              go_wp2_with fail
              go_quiet (fail)
              go_wp2_with fail
              go_quiet (fail)
              go_wp2_with fail
              go_quiet (fail)
              go_wp2_with fail
              go_ret
              exact ⟨rfl, told_of (HS.out.drewN _) HA.out HG1.out (by first | exact Or.inl rfl | (have h := HEX.out; simp at h; exact Or.inr h)) (by have h := HFIN.out; first | exact h | (simp at h ⊢; try exact h)) 3 2 HMK.out (by have := HT.out; omega)⟩
            · have b2 : (decide ((2 : Int) ≤ (rl : Int))) = true := by simp; omega
              have b2n : (decide (2 ≤ rl)) = true := by simp; omega
              have b3 : (decide ((3 : Int) ≤ (rl : Int))) = false := by simp; omega
              have b3n : (decide (3 ≤ rl)) = false := by simp; omega
              have x0 : (t0 == ((((⟨#[255, 254]⟩ : ByteArray)[0]'(by decide)).toNat : Nat) : Int)) = false := (show (t0 == 255) = false from by simp; omega)
              have x1 : (t0 == ((((⟨#[254, 255]⟩ : ByteArray)[0]'(by decide)).toNat : Nat) : Int)) = true := (show (t0 == 254) = true from by simp; omega)
              have x2 : (t1 == ((((⟨#[254, 255]⟩ : ByteArray)[1]'(by decide)).toNat : Nat) : Int)) = false := (show (t1 == 255) = false from by simp; omega)
              have x3 : (t0 == ((((⟨#[239, 187, 191]⟩ : ByteArray)[0]'(by decide)).toNat : Nat) : Int)) = false := (show (t0 == 239) = false from by simp; omega)
              have hmk : mk T = (1, 0) := by unfold mk; rw [if_neg (by have := HT.out; have := ht0; have := ht1; have := ht2; omega), if_neg (by have := HT.out; have := ht0; have := ht1; have := ht2; omega), if_neg (by have := HT.out; have := ht0; have := ht1; have := ht2; omega)]
              have HMK := Lib.hid hmk
              clear hmk ht0 ht1 ht2 hbyte
              try clear x
              try clear y
              try clear z
              try clear u
              try clear v
              have i0 : 0 < rl := by omega
              have i0i : (0 : Int) < (rl : Int) := by omega
              have i1 : 1 < rl := by omega
              have i1i : (1 : Int) < (rl : Int) := by omega
              try clear r3
              clear r2
              go_wp2_with fail
              go_quiet (fail)
              go_wp2_with fail
              go_quiet (fail)
              go_wp2_with fail
              go_quiet (fail)
              go_wp2_with fail
              go_quiet (fail)
              go_wp2_with fail
              go_ret
              exact ⟨rfl, told_of0 (HS.out.drewN _) HA.out HG1.out (by first | exact Or.inl rfl | (have h := HEX.out; simp at h; exact Or.inr h)) (by have h := HFIN.out; first | exact h | (simp at h ⊢; try exact h)) 1 HMK.out⟩
          have b2 : (decide ((2 : Int) ≤ (rl : Int))) = true := by simp; omega
          have b2n : (decide (2 ≤ rl)) = true := by simp; omega
          have b3 : (decide ((3 : Int) ≤ (rl : Int))) = false := by simp; omega
          have b3n : (decide (3 ≤ rl)) = false := by simp; omega
          have x0 : (t0 == ((((⟨#[255, 254]⟩ : ByteArray)[0]'(by decide)).toNat : Nat) : Int)) = false := (show (t0 == 255) = false from by simp; omega)
          have x1 : (t0 == ((((⟨#[254, 255]⟩ : ByteArray)[0]'(by decide)).toNat : Nat) : Int)) = false := (show (t0 == 254) = false from by simp; omega)
          have hmk : mk T = (1, 0) := by unfold mk; rw [if_neg (by have := HT.out; have := ht0; have := ht1; have := ht2; omega), if_neg (by have := HT.out; have := ht0; have := ht1; have := ht2; omega), if_neg (by have := HT.out; have := ht0; have := ht1; have := ht2; omega)]
          have HMK := Lib.hid hmk
          clear hmk ht0 ht1 ht2 hbyte
          try clear x
          try clear y
          try clear z
          try clear u
          try clear v
          have i0 : 0 < rl := by omega
          have i0i : (0 : Int) < (rl : Int) := by omega
          have i1 : 1 < rl := by omega
          have i1i : (1 : Int) < (rl : Int) := by omega
          try clear r3
          clear r2
          go_wp2_with fail
          go_quiet (fail)
          go_wp2_with fail
          go_quiet (fail)
          go_wp2_with fail
          go_quiet (fail)
          go_wp2_with fail
          go_quiet (fail)
          go_wp2_with fail
          go_ret
          exact ⟨rfl, told_of0 (HS.out.drewN _) HA.out HG1.out (by first | exact Or.inl rfl | (have h := HEX.out; simp at h; exact Or.inr h)) (by have h := HFIN.out; first | exact h | (simp at h ⊢; try exact h)) 1 HMK.out⟩
        have c2 := hbyte 2 (by omega)
        rw [← ht2] at c2
        by_cases x : t0 = 255
        · by_cases y : t1 = 254
          · have b2 : (decide ((2 : Int) ≤ (rl : Int))) = true := by simp; omega
            have b2n : (decide (2 ≤ rl)) = true := by simp; omega
            have b3 : (decide ((3 : Int) ≤ (rl : Int))) = true := by simp; omega
            have b3n : (decide (3 ≤ rl)) = true := by simp; omega
            have x0 : (t0 == ((((⟨#[255, 254]⟩ : ByteArray)[0]'(by decide)).toNat : Nat) : Int)) = true := (show (t0 == 255) = true from by simp; omega)
            have x1 : (t1 == ((((⟨#[255, 254]⟩ : ByteArray)[1]'(by decide)).toNat : Nat) : Int)) = true := (show (t1 == 254) = true from by simp; omega)
            have hmk : mk T = (2, 2) := by unfold mk; rw [if_pos (by have := HT.out; have := ht0; have := ht1; have := ht2; omega)]
            have HMK := Lib.hid hmk
            clear hmk ht0 ht1 ht2 hbyte
            try clear x
            try clear y
            try clear z
            try clear u
            try clear v
            have i0 : 0 < rl := by omega
            have i0i : (0 : Int) < (rl : Int) := by omega
            have i1 : 1 < rl := by omega
            have i1i : (1 : Int) < (rl : Int) := by omega
            have i2 : 2 < rl := by omega
            have i2i : (2 : Int) < (rl : Int) := by omega
            try clear r3
            clear r2
            go_wp2_with fail
            go_quiet (fail)
            go_wp2_with fail
            go_quiet (fail)
            go_wp2_with fail
            go_ret
            exact ⟨rfl, told_of (HS.out.drewN _) HA.out HG1.out (by first | exact Or.inl rfl | (have h := HEX.out; simp at h; exact Or.inr h)) (by have h := HFIN.out; first | exact h | (simp at h ⊢; try exact h)) 2 2 HMK.out (by have := HT.out; omega)⟩
          · have b2 : (decide ((2 : Int) ≤ (rl : Int))) = true := by simp; omega
            have b2n : (decide (2 ≤ rl)) = true := by simp; omega
            have b3 : (decide ((3 : Int) ≤ (rl : Int))) = true := by simp; omega
            have b3n : (decide (3 ≤ rl)) = true := by simp; omega
            have x0 : (t0 == ((((⟨#[255, 254]⟩ : ByteArray)[0]'(by decide)).toNat : Nat) : Int)) = true := (show (t0 == 255) = true from by simp; omega)
            have x1 : (t1 == ((((⟨#[255, 254]⟩ : ByteArray)[1]'(by decide)).toNat : Nat) : Int)) = false := (show (t1 == 254) = false from by simp; omega)
            have x2 : (t0 == ((((⟨#[254, 255]⟩ : ByteArray)[0]'(by decide)).toNat : Nat) : Int)) = false := (show (t0 == 254) = false from by simp; omega)
            have x3 : (t0 == ((((⟨#[239, 187, 191]⟩ : ByteArray)[0]'(by decide)).toNat : Nat) : Int)) = false := (show (t0 == 239) = false from by simp; omega)
            have hmk : mk T = (1, 0) := by unfold mk; rw [if_neg (by have := HT.out; have := ht0; have := ht1; have := ht2; omega), if_neg (by have := HT.out; have := ht0; have := ht1; have := ht2; omega), if_neg (by have := HT.out; have := ht0; have := ht1; have := ht2; omega)]
            have HMK := Lib.hid hmk
            clear hmk ht0 ht1 ht2 hbyte
            try clear x
            try clear y
            try clear z
            try clear u
            try clear v
            have i0 : 0 < rl := by omega
            have i0i : (0 : Int) < (rl : Int) := by omega
            have i1 : 1 < rl := by omega
            have i1i : (1 : Int) < (rl : Int) := by omega
            have i2 : 2 < rl := by omega
            have i2i : (2 : Int) < (rl : Int) := by omega
            try clear r3
            clear r2
            go_wp2_with fail
            go_quiet (fail)
            go_wp2_with fail
            go_quiet (fail)
            go_wp2_with fail
            go_quiet (fail)
            go_wp2_with fail
            go_quiet (fail)
            go_wp2_with fail
            go_ret
            exact ⟨rfl, told_of0 (HS.out.drewN _) HA.out HG1.out (by first | exact Or.inl rfl | (have h := HEX.out; simp at h; exact Or.inr h)) (by have h := HFIN.out; first | exact h | (simp at h ⊢; try exact h)) 1 HMK.out⟩
        by_cases y : t0 = 254
        · by_cases z : t1 = 255
          · have b2 : (decide ((2 : Int) ≤ (rl : Int))) = true := by simp; omega
            have b2n : (decide (2 ≤ rl)) = true := by simp; omega
            have b3 : (decide ((3 : Int) ≤ (rl : Int))) = true := by simp; omega
            have b3n : (decide (3 ≤ rl)) = true := by simp; omega
            have x0 : (t0 == ((((⟨#[255, 254]⟩ : ByteArray)[0]'(by decide)).toNat : Nat) : Int)) = false := (show (t0 == 255) = false from by simp; omega)
            have x1 : (t0 == ((((⟨#[254, 255]⟩ : ByteArray)[0]'(by decide)).toNat : Nat) : Int)) = true := (show (t0 == 254) = true from by simp; omega)
            have x2 : (t1 == ((((⟨#[254, 255]⟩ : ByteArray)[1]'(by decide)).toNat : Nat) : Int)) = true := (show (t1 == 255) = true from by simp; omega)
            have hmk : mk T = (3, 2) := by unfold mk; rw [if_neg (by have := HT.out; have := ht0; have := ht1; have := ht2; omega), if_pos (by have := HT.out; have := ht0; have := ht1; have := ht2; omega)]
            have HMK := Lib.hid hmk
            clear hmk ht0 ht1 ht2 hbyte
            try clear x
            try clear y
            try clear z
            try clear u
            try clear v
            have i0 : 0 < rl := by omega
            have i0i : (0 : Int) < (rl : Int) := by omega
            have i1 : 1 < rl := by omega
            have i1i : (1 : Int) < (rl : Int) := by omega
            have i2 : 2 < rl := by omega
            have i2i : (2 : Int) < (rl : Int) := by omega
            try clear r3
            clear r2
            go_wp2_with fail
            go_quiet (fail)
            go_wp2_with fail
            go_quiet (fail)
            go_wp2_with fail
            go_quiet (fail)
            go_wp2_with fail
            go_ret
            exact ⟨rfl, told_of (HS.out.drewN _) HA.out HG1.out (by first | exact Or.inl rfl | (have h := HEX.out; simp at h; exact Or.inr h)) (by have h := HFIN.out; first | exact h | (simp at h ⊢; try exact h)) 3 2 HMK.out (by have := HT.out; omega)⟩
          · have b2 : (decide ((2 : Int) ≤ (rl : Int))) = true := by simp; omega
            have b2n : (decide (2 ≤ rl)) = true := by simp; omega
            have b3 : (decide ((3 : Int) ≤ (rl : Int))) = true := by simp; omega
            have b3n : (decide (3 ≤ rl)) = true := by simp; omega
            have x0 : (t0 == ((((⟨#[255, 254]⟩ : ByteArray)[0]'(by decide)).toNat : Nat) : Int)) = false := (show (t0 == 255) = false from by simp; omega)
            have x1 : (t0 == ((((⟨#[254, 255]⟩ : ByteArray)[0]'(by decide)).toNat : Nat) : Int)) = true := (show (t0 == 254) = true from by simp; omega)
            have x2 : (t1 == ((((⟨#[254, 255]⟩ : ByteArray)[1]'(by decide)).toNat : Nat) : Int)) = false := (show (t1 == 255) = false from by simp; omega)
            have x3 : (t0 == ((((⟨#[239, 187, 191]⟩ : ByteArray)[0]'(by decide)).toNat : Nat) : Int)) = false := (show (t0 == 239) = false from by simp; omega)
            have hmk : mk T = (1, 0) := by unfold mk; rw [if_neg (by have := HT.out; have := ht0; have := ht1; have := ht2; omega), if_neg (by have := HT.out; have := ht0; have := ht1; have := ht2; omega), if_neg (by have := HT.out; have := ht0; have := ht1; have := ht2; omega)]
            have HMK := Lib.hid hmk
            clear hmk ht0 ht1 ht2 hbyte
            try clear x
            try clear y
            try clear z
            try clear u
            try clear v
            have i0 : 0 < rl := by omega
            have i0i : (0 : Int) < (rl : Int) := by omega
            have i1 : 1 < rl := by omega
            have i1i : (1 : Int) < (rl : Int) := by omega
            have i2 : 2 < rl := by omega
            have i2i : (2 : Int) < (rl : Int) := by omega
            try clear r3
            clear r2
            go_wp2_with fail
            go_quiet (fail)
            go_wp2_with fail
            go_quiet (fail)
            go_wp2_with fail
            go_quiet (fail)
            go_wp2_with fail
            go_quiet (fail)
            go_wp2_with fail
            go_ret
            exact ⟨rfl, told_of0 (HS.out.drewN _) HA.out HG1.out (by first | exact Or.inl rfl | (have h := HEX.out; simp at h; exact Or.inr h)) (by have h := HFIN.out; first | exact h | (simp at h ⊢; try exact h)) 1 HMK.out⟩
        by_cases z : t0 = 239
        · by_cases u : t1 = 187
          · by_cases v : t2 = 191
            · have b2 : (decide ((2 : Int) ≤ (rl : Int))) = true := by simp; omega
              have b2n : (decide (2 ≤ rl)) = true := by simp; omega
              have b3 : (decide ((3 : Int) ≤ (rl : Int))) = true := by simp; omega
              have b3n : (decide (3 ≤ rl)) = true := by simp; omega
              have x0 : (t0 == ((((⟨#[255, 254]⟩ : ByteArray)[0]'(by decide)).toNat : Nat) : Int)) = false := (show (t0 == 255) = false from by simp; omega)
              have x1 : (t0 == ((((⟨#[254, 255]⟩ : ByteArray)[0]'(by decide)).toNat : Nat) : Int)) = false := (show (t0 == 254) = false from by simp; omega)
              have x2 : (t0 == ((((⟨#[239, 187, 191]⟩ : ByteArray)[0]'(by decide)).toNat : Nat) : Int)) = true := (show (t0 == 239) = true from by simp; omega)
              have x3 : (t1 == ((((⟨#[239, 187, 191]⟩ : ByteArray)[1]'(by decide)).toNat : Nat) : Int)) = true := (show (t1 == 187) = true from by simp; omega)
              have x4 : (t2 == ((((⟨#[239, 187, 191]⟩ : ByteArray)[2]'(by decide)).toNat : Nat) : Int)) = true := (show (t2 == 191) = true from by simp; omega)
              have hmk : mk T = (1, 3) := by unfold mk; rw [if_neg (by have := HT.out; have := ht0; have := ht1; have := ht2; omega), if_neg (by have := HT.out; have := ht0; have := ht1; have := ht2; omega), if_pos (by have := HT.out; have := ht0; have := ht1; have := ht2; omega)]
              have HMK := Lib.hid hmk
              clear hmk ht0 ht1 ht2 hbyte
              try clear x
              try clear y
              try clear z
              try clear u
              try clear v
              have i0 : 0 < rl := by omega
              have i0i : (0 : Int) < (rl : Int) := by omega
              have i1 : 1 < rl := by omega
              have i1i : (1 : Int) < (rl : Int) := by omega
              have i2 : 2 < rl := by omega
              have i2i : (2 : Int) < (rl : Int) := by omega
              try clear r3
              clear r2
              go_wp2_with fail
              go_quiet (fail)
              go_wp2_with fail
              go_quiet (fail)
              go_wp2_with fail
              go_quiet (fail)
              go_wp2_with fail
              go_quiet (fail)
              go_wp2_with fail
              go_ret
              exact ⟨rfl, told_of (HS.out.drewN _) HA.out HG1.out (by first | exact Or.inl rfl | (have h := HEX.out; simp at h; exact Or.inr h)) (by have h := HFIN.out; first | exact h | (simp at h ⊢; try exact h)) 1 3 HMK.out (by have := HT.out; omega)⟩
            · have b2 : (decide ((2 : Int) ≤ (rl : Int))) = true := by simp; omega
              have b2n : (decide (2 ≤ rl)) = true := by simp; omega
              have b3 : (decide ((3 : Int) ≤ (rl : Int))) = true := by simp; omega
              have b3n : (decide (3 ≤ rl)) = true := by simp; omega
              have x0 : (t0 == ((((⟨#[255, 254]⟩ : ByteArray)[0]'(by decide)).toNat : Nat) : Int)) = false := (show (t0 == 255) = false from by simp; omega)
              have x1 : (t0 == ((((⟨#[254, 255]⟩ : ByteArray)[0]'(by decide)).toNat : Nat) : Int)) = false := (show (t0 == 254) = false from by simp; omega)
              have x2 : (t0 == ((((⟨#[239, 187, 191]⟩ : ByteArray)[0]'(by decide)).toNat : Nat) : Int)) = true := (show (t0 == 239) = true from by simp; omega)
              have x3 : (t1 == ((((⟨#[239, 187, 191]⟩ : ByteArray)[1]'(by decide)).toNat : Nat) : Int)) = true := (show (t1 == 187) = true from by simp; omega)
              have x4 : (t2 == ((((⟨#[239, 187, 191]⟩ : ByteArray)[2]'(by decide)).toNat : Nat) : Int)) = false := (show (t2 == 191) = false from by simp; omega)
              have hmk : mk T = (1, 0) := by unfold mk; rw [if_neg (by have := HT.out; have := ht0; have := ht1; have := ht2; omega), if_neg (by have := HT.out; have := ht0; have := ht1; have := ht2; omega), if_neg (by have := HT.out; have := ht0; have := ht1; have := ht2; omega)]
              have HMK := Lib.hid hmk
              clear hmk ht0 ht1 ht2 hbyte
              try clear x
              try clear y
              try clear z
              try clear u
              try clear v
              have i0 : 0 < rl := by omega
              have i0i : (0 : Int) < (rl : Int) := by omega
              have i1 : 1 < rl := by omega
              have i1i : (1 : Int) < (rl : Int) := by omega
              have i2 : 2 < rl := by omega
              have i2i : (2 : Int) < (rl : Int) := by omega
              try clear r3
              clear r2
              go_wp2_with fail
              go_quiet (fail)
              go_wp2_with fail
              go_quiet (fail)
              go_wp2_with fail
              go_quiet (fail)
              go_wp2_with fail
              go_quiet (fail)
              go_wp2_with fail
              go_ret
              exact ⟨rfl, told_of0 (HS.out.drewN _) HA.out HG1.out (by first | exact Or.inl rfl | (have h := HEX.out; simp at h; exact Or.inr h)) (by have h := HFIN.out; first | exact h | (simp at h ⊢; try exact h)) 1 HMK.out⟩
          · have b2 : (decide ((2 : Int) ≤ (rl : Int))) = true := by simp; omega
            have b2n : (decide (2 ≤ rl)) = true := by simp; omega
            have b3 : (decide ((3 : Int) ≤ (rl : Int))) = true := by simp; omega
            have b3n : (decide (3 ≤ rl)) = true := by simp; omega
            have x0 : (t0 == ((((⟨#[255, 254]⟩ : ByteArray)[0]'(by decide)).toNat : Nat) : Int)) = false := (show (t0 == 255) = false from by simp; omega)
            have x1 : (t0 == ((((⟨#[254, 255]⟩ : ByteArray)[0]'(by decide)).toNat : Nat) : Int)) = false := (show (t0 == 254) = false from by simp; omega)
            have x2 : (t0 == ((((⟨#[239, 187, 191]⟩ : ByteArray)[0]'(by decide)).toNat : Nat) : Int)) = true := (show (t0 == 239) = true from by simp; omega)
            have x3 : (t1 == ((((⟨#[239, 187, 191]⟩ : ByteArray)[1]'(by decide)).toNat : Nat) : Int)) = false := (show (t1 == 187) = false from by simp; omega)
            have hmk : mk T = (1, 0) := by unfold mk; rw [if_neg (by have := HT.out; have := ht0; have := ht1; have := ht2; omega), if_neg (by have := HT.out; have := ht0; have := ht1; have := ht2; omega), if_neg (by have := HT.out; have := ht0; have := ht1; have := ht2; omega)]
            have HMK := Lib.hid hmk
            clear hmk ht0 ht1 ht2 hbyte
            try clear x
            try clear y
            try clear z
            try clear u
            try clear v
            have i0 : 0 < rl := by omega
            have i0i : (0 : Int) < (rl : Int) := by omega
            have i1 : 1 < rl := by omega
            have i1i : (1 : Int) < (rl : Int) := by omega
            have i2 : 2 < rl := by omega
            have i2i : (2 : Int) < (rl : Int) := by omega
            try clear r3
            clear r2
            go_wp2_with fail
            go_quiet (fail)
            go_wp2_with fail
            go_quiet (fail)
            go_wp2_with fail
            go_quiet (fail)
            go_wp2_with fail
            go_quiet (fail)
            go_wp2_with fail
            go_ret
            exact ⟨rfl, told_of0 (HS.out.drewN _) HA.out HG1.out (by first | exact Or.inl rfl | (have h := HEX.out; simp at h; exact Or.inr h)) (by have h := HFIN.out; first | exact h | (simp at h ⊢; try exact h)) 1 HMK.out⟩
        have b2 : (decide ((2 : Int) ≤ (rl : Int))) = true := by simp; omega
        have b2n : (decide (2 ≤ rl)) = true := by simp; omega
        have b3 : (decide ((3 : Int) ≤ (rl : Int))) = true := by simp; omega
        have b3n : (decide (3 ≤ rl)) = true := by simp; omega
        have x0 : (t0 == ((((⟨#[255, 254]⟩ : ByteArray)[0]'(by decide)).toNat : Nat) : Int)) = false := (show (t0 == 255) = false from by simp; omega)
        have x1 : (t0 == ((((⟨#[254, 255]⟩ : ByteArray)[0]'(by decide)).toNat : Nat) : Int)) = false := (show (t0 == 254) = false from by simp; omega)
        have x2 : (t0 == ((((⟨#[239, 187, 191]⟩ : ByteArray)[0]'(by decide)).toNat : Nat) : Int)) = false := (show (t0 == 239) = false from by simp; omega)
        have hmk : mk T = (1, 0) := by unfold mk; rw [if_neg (by have := HT.out; have := ht0; have := ht1; have := ht2; omega), if_neg (by have := HT.out; have := ht0; have := ht1; have := ht2; omega), if_neg (by have := HT.out; have := ht0; have := ht1; have := ht2; omega)]
        have HMK := Lib.hid hmk
        clear hmk ht0 ht1 ht2 hbyte
        try clear x
        try clear y
        try clear z
        try clear u
        try clear v
        have i0 : 0 < rl := by omega
        have i0i : (0 : Int) < (rl : Int) := by omega
        have i1 : 1 < rl := by omega
        have i1i : (1 : Int) < (rl : Int) := by omega
        have i2 : 2 < rl := by omega
        have i2i : (2 : Int) < (rl : Int) := by omega
        try clear r3
        clear r2
        go_wp2_with fail
        go_quiet (fail)
        go_wp2_with fail
        go_quiet (fail)
        go_wp2_with fail
        go_quiet (fail)
        go_wp2_with fail
        go_quiet (fail)
        go_wp2_with fail
        go_ret
        exact ⟨rfl, told_of0 (HS.out.drewN _) HA.out HG1.out (by first | exact Or.inl rfl | (have h := HEX.out; simp at h; exact Or.inr h)) (by have h := HFIN.out; first | exact h | (simp at h ⊢; try exact h)) 1 HMK.out⟩
      · skip
        by_cases r2 : rl < 2
        · have b2 : (decide ((2 : Int) ≤ (rl : Int))) = false := by simp; omega
          have b2n : (decide (2 ≤ rl)) = false := by simp; omega
          have b3 : (decide ((3 : Int) ≤ (rl : Int))) = false := by simp; omega
          have b3n : (decide (3 ≤ rl)) = false := by simp; omega
          have hmk : mk T = (1, 0) := by unfold mk; rw [if_neg (by have := HT.out; have := ht0; have := ht1; have := ht2; omega), if_neg (by have := HT.out; have := ht0; have := ht1; have := ht2; omega), if_neg (by have := HT.out; have := ht0; have := ht1; have := ht2; omega)]
          have HMK := Lib.hid hmk
          clear hmk ht0 ht1 ht2 hbyte
          try clear x
          try clear y
          try clear z
          try clear u
          try clear v
          try clear r3
          clear r2
          go_wp2_with fail
          go_quiet (fail)
          go_wp2_with fail
          go_quiet (fail)
          go_wp2_with fail
          go_quiet (fail)
          go_wp2_with fail
          go_quiet (fail)
          go_wp2_with fail
          go_ret
          exact ⟨rfl, told_of0 (HS.out.drewN _) HA.out HG1.out (by first | exact Or.inl rfl | (have h := HEX.out; simp at h; exact Or.inr h)) (by have h := HFIN.out; first | exact h | (simp at h ⊢; try exact h)) 1 HMK.out⟩
        have c0 := hbyte 0 (by omega)
        have c1 := hbyte 1 (by omega)
        rw [← ht0] at c0
        rw [← ht1] at c1
        by_cases r3 : rl < 3
        · by_cases x : t0 = 255
          · by_cases y : t1 = 254
            · have b2 : (decide ((2 : Int) ≤ (rl : Int))) = true := by simp; omega
              have b2n : (decide (2 ≤ rl)) = true := by simp; omega
              have b3 : (decide ((3 : Int) ≤ (rl : Int))) = false := by simp; omega
              have b3n : (decide (3 ≤ rl)) = false := by simp; omega
              have x0 : (t0 == ((((⟨#[255, 254]⟩ : ByteArray)[0]'(by decide)).toNat : Nat) : Int)) = true := (show (t0 == 255) = true from by simp; omega)
              have x1 : (t1 == ((((⟨#[255, 254]⟩ : ByteArray)[1]'(by decide)).toNat : Nat) : Int)) = true := (show (t1 == 254) = true from by simp; omega)
              have hmk : mk T = (2, 2) := by unfold mk; rw [if_pos (by have := HT.out; have := ht0; have := ht1; have := ht2; omega)]
              have HMK := Lib.hid hmk
              clear hmk ht0 ht1 ht2 hbyte
              try clear x
              try clear y
              try clear z
              try clear u
              try clear v
              have i0 : 0 < rl := by omega
              have i0i : (0 : Int) < (rl : Int) := by omega
              have i1 : 1 < rl := by omega
              have i1i : (1 : Int) < (rl : Int) := by omega
              try clear r3
              clear r2
              go_wp2_with fail
              go_quiet (fail)
              go_wp2_with fail
              go_quiet (fail)
              go_wp2_with fail
              go_ret
              exact ⟨rfl, told_of (HS.out.drewN _) HA.out HG1.out (by first | exact Or.inl rfl | (have h := HEX.out; simp at h; exact Or.inr h)) (by have h := HFIN.out; first | exact h | (simp at h ⊢; try exact h)) 2 2 HMK.out (by have := HT.out; omega)⟩
            · have b2 : (decide ((2 : Int) ≤ (rl : Int))) = true := by simp; omega
              have b2n : (decide (2 ≤ rl)) = true := by simp; omega
              have b3 : (decide ((3 : Int) ≤ (rl : Int))) = false := by simp; omega
              have b3n : (decide (3 ≤ rl)) = false := by simp; omega
              have x0 : (t0 == ((((⟨#[255, 254]⟩ : ByteArray)[0]'(by decide)).toNat : Nat) : Int)) = true := (show (t0 == 255) = true from by simp; omega)
              have x1 : (t1 == ((((⟨#[255, 254]⟩ : ByteArray)[1]'(by decide)).toNat : Nat) : Int)) = false := (show (t1 == 254) = false from by simp; omega)
              have x2 : (t0 == ((((⟨#[254, 255]⟩ : ByteArray)[0]'(by decide)).toNat : Nat) : Int)) = false := (show (t0 == 254) = false from by simp; omega)
              have x3 : (t0 == ((((⟨#[239, 187, 191]⟩ : ByteArray)[0]'(by decide)).toNat : Nat) : Int)) = false := (show (t0 == 239) = false from by simp; omega)
              have hmk : mk T = (1, 0) := by unfold mk; rw [if_neg (by have := HT.out; have := ht0; have := ht1; have := ht2; omega), if_neg (by have := HT.out; have := ht0; have := ht1; have := ht2; omega), if_neg (by have := HT.out; have := ht0; have := ht1; have := ht2; omega)]
              have HMK := Lib.hid hmk
              clear hmk ht0 ht1 ht2 hbyte
              try clear x
              try clear y
              try clear z
              try clear u
              try clear v
              have i0 : 0 < rl := by omega
              have i0i : (0 : Int) < (rl : Int) := by omega
              have i1 : 1 < rl := by omega
              have i1i : (1 : Int) < (rl : Int) := by omega
              try clear r3
              clear r2
              go_wp2_with fail
              go_quiet (fail)
              go_wp2_with fail
              go_quiet (fail)
              go_wp2_with fail
              go_quiet (fail)
              go_wp2_with fail
              go_quiet (fail)
              go_wp2_with fail
              go_ret
              exact ⟨rfl, told_of0 (HS.out.drewN _) HA.out HG1.out (by first | exact Or.inl rfl | (have h := HEX.out; simp at h; exact Or.inr h)) (by have h := HFIN.out; first | exact h | (simp at h ⊢; try exact h)) 1 HMK.out⟩
          by_cases y : t0 = 254
          · by_cases z : t1 = 255
            · have b2 : (decide ((2 : Int) ≤ (rl : Int))) = true := by simp; omega
              have b2n : (decide (2 ≤ rl)) = true := by simp; omega
              have b3 : (decide ((3 : Int) ≤ (rl : Int))) = false := by simp; omega
              have b3n : (decide (3 ≤ rl)) = false := by simp; omega
              have x0 : (t0 == ((((⟨#[255, 254]⟩ : ByteArray)[0]'(by decide)).toNat : Nat) : Int)) = false := (show (t0 == 255) = false from by simp; omega)
              have x1 : (t0 == ((((⟨#[254, 255]⟩ : ByteArray)[0]'(by decide)).toNat : Nat) : Int)) = true := (show (t0 == 254) = true from by simp; omega)
              have x2 : (t1 == ((((⟨#[254, 255]⟩ : ByteArray)[1]'(by decide)).toNat : Nat) : Int)) = true := (show (t1 == 255) = true from by simp; omega)
              have hmk : mk T = (3, 2) := by unfold mk; rw [if_neg (by have := HT.out; have := ht0; have := ht1; have := ht2; omega), if_pos (by have := HT.out; have := ht0; have := ht1; have := ht2; omega)]
              have HMK := Lib.hid hmk
              clear hmk ht0 ht1 ht2 hbyte
              try clear x
              try clear y
              try clear z
              try clear u
              try clear v
              have i0 : 0 < rl := by omega
              have i0i : (0 : Int) < (rl : Int) := by omega
              have i1 : 1 < rl := by omega
              have i1i : (1 : Int) < (rl : Int) := by omega
              try clear r3
              clear r2
              go_wp2_with fail
              go_quiet (fail)
              go_wp2_with fail
              go_quiet (fail)
              go_wp2_with fail
              go_quiet (fail)
              go_wp2_with fail
              go_ret
              exact ⟨rfl, told_of (HS.out.drewN _) HA.out HG1.out (by first | exact Or.inl rfl | (have h := HEX.out; simp at h; exact Or.inr h)) (by have h := HFIN.out; first | exact h | (simp at h ⊢; try exact h)) 3 2 HMK.out (by have := HT.out; omega)⟩
            · have b2 : (decide ((2 : Int) ≤ (rl : Int))) = true := by simp; omega
              have b2n : (decide (2 ≤ rl)) = true := by simp; omega
              have b3 : (decide ((3 : Int) ≤ (rl : Int))) = false := by simp; omega
              have b3n : (decide (3 ≤ rl)) = false := by simp; omega
              have x0 : (t0 == ((((⟨#[255, 254]⟩ : ByteArray)[0]'(by decide)).toNat : Nat) : Int)) = false := (show (t0 == 255) = false from by simp; omega)
              have x1 : (t0 == ((((⟨#[254, 255]⟩ : ByteArray)[0]'(by decide)).toNat : Nat) : Int)) = true := (show (t0 == 254) = true from by simp; omega)
              have x2 : (t1 == ((((⟨#[254, 255]⟩ : ByteArray)[1]'(by decide)).toNat : Nat) : Int)) = false := (show (t1 == 255) = false from by simp; omega)
              have x3 : (t0 == ((((⟨#[239, 187, 191]⟩ : ByteArray)[0]'(by decide)).toNat : Nat) : Int)) = false := (show (t0 == 239) = false from by simp; omega)
              have hmk : mk T = (1, 0) := by unfold mk; rw [if_neg (by have := HT.out; have := ht0; have := ht1; have := ht2; omega), if_neg (by have := HT.out; have := ht0; have := ht1; have := ht2; omega), if_neg (by have := HT.out; have := ht0; have := ht1; have := ht2; omega)]
              have HMK := Lib.hid hmk
              clear hmk ht0 ht1 ht2 hbyte
              try clear x
              try clear y
              try clear z
              try clear u
              try clear v
              have i0 : 0 < rl := by omega
              have i0i : (0 : Int) < (rl : Int) := by omega
              have i1 : 1 < rl := by omega
              have i1i : (1 : Int) < (rl : Int) := by omega
              try clear r3
              clear r2
              go_wp2_with fail
              go_quiet (fail)
              go_wp2_with fail
              go_quiet (fail)
              go_wp2_with fail
              go_quiet (fail)
              go_wp2_with fail
              go_quiet (fail)
              go_wp2_with fail
              go_ret
              exact ⟨rfl, told_of0 (HS.out.drewN _) HA.out HG1.out (by first | exact Or.inl rfl | (have h := HEX.out; simp at h; exact Or.inr h)) (by have h := HFIN.out; first | exact h | (simp at h ⊢; try exact h)) 1 HMK.out⟩
          have b2 : (decide ((2 : Int) ≤ (rl : Int))) = true := by simp; omega
          have b2n : (decide (2 ≤ rl)) = true := by simp; omega
          have b3 : (decide ((3 : Int) ≤ (rl : Int))) = false := by simp; omega
          have b3n : (decide (3 ≤ rl)) = false := by simp; omega
          have x0 : (t0 == ((((⟨#[255, 254]⟩ : ByteArray)[0]'(by decide)).toNat : Nat) : Int)) = false := (show (t0 == 255) = false from by simp; omega)
          have x1 : (t0 == ((((⟨#[254, 255]⟩ : ByteArray)[0]'(by decide)).toNat : Nat) : Int)) = false := (show (t0 == 254) = false from by simp; omega)
          have hmk : mk T = (1, 0) := by unfold mk; rw [if_neg (by have := HT.out; have := ht0; have := ht1; have := ht2; omega), if_neg (by have := HT.out; have := ht0; have := ht1; have := ht2; omega), if_neg (by have := HT.out; have := ht0; have := ht1; have := ht2; omega)]
          have HMK := Lib.hid hmk
          clear hmk ht0 ht1 ht2 hbyte
          try clear x
          try clear y
          try clear z
          try clear u
          try clear v
          have i0 : 0 < rl := by omega
          have i0i : (0 : Int) < (rl : Int) := by omega
          have i1 : 1 < rl := by omega
          have i1i : (1 : Int) < (rl : Int) := by omega
          try clear r3
          clear r2
          go_wp2_with fail
          go_quiet (fail)
          go_wp2_with fail
          go_quiet (fail)
          go_wp2_with fail
          go_quiet (fail)
          go_wp2_with fail
          go_quiet (fail)
          go_wp2_with fail
          go_ret
          exact ⟨rfl, told_of0 (HS.out.drewN _) HA.out HG1.out (by first | exact Or.inl rfl | (have h := HEX.out; simp at h; exact Or.inr h)) (by have h := HFIN.out; first | exact h | (simp at h ⊢; try exact h)) 1 HMK.out⟩
        have c2 := hbyte 2 (by omega)
        rw [← ht2] at c2
        by_cases x : t0 = 255
        · by_cases y : t1 = 254
          · have b2 : (decide ((2 : Int) ≤ (rl : Int))) = true := by simp; omega
            have b2n : (decide (2 ≤ rl)) = true := by simp; omega
            have b3 : (decide ((3 : Int) ≤ (rl : Int))) = true := by simp; omega
            have b3n : (decide (3 ≤ rl)) = true := by simp; omega
            have x0 : (t0 == ((((⟨#[255, 254]⟩ : ByteArray)[0]'(by decide)).toNat : Nat) : Int)) = true := (show (t0 == 255) = true from by simp; omega)
            have x1 : (t1 == ((((⟨#[255, 254]⟩ : ByteArray)[1]'(by decide)).toNat : Nat) : Int)) = true := (show (t1 == 254) = true from by simp; omega)
            have hmk : mk T = (2, 2) := by unfold mk; rw [if_pos (by have := HT.out; have := ht0; have := ht1; have := ht2; omega)]
            have HMK := Lib.hid hmk
            clear hmk ht0 ht1 ht2 hbyte
            try clear x
            try clear y
            try clear z
            try clear u
            try clear v
            have i0 : 0 < rl := by omega
            have i0i : (0 : Int) < (rl : Int) := by omega
            have i1 : 1 < rl := by omega
            have i1i : (1 : Int) < (rl : Int) := by omega
            have i2 : 2 < rl := by omega
            have i2i : (2 : Int) < (rl : Int) := by omega
            try clear r3
            clear r2
            go_wp2_with fail
            go_quiet (fail)
            go_wp2_with fail
            go_quiet (fail)
            go_wp2_with fail
            go_ret
            exact ⟨rfl, told_of (HS.out.drewN _) HA.out HG1.out (by first | exact Or.inl rfl | (have h := HEX.out; simp at h; exact Or.inr h)) (by have h := HFIN.out; first | exact h | (simp at h ⊢; try exact h)) 2 2 HMK.out (by have := HT.out; omega)⟩
          · have b2 : (decide ((2 : Int) ≤ (rl : Int))) = true := by simp; omega
            have b2n : (decide (2 ≤ rl)) = true := by simp; omega
            have b3 : (decide ((3 : Int) ≤ (rl : Int))) = true := by simp; omega
            have b3n : (decide (3 ≤ rl)) = true := by simp; omega
            have x0 : (t0 == ((((⟨#[255, 254]⟩ : ByteArray)[0]'(by decide)).toNat : Nat) : Int)) = true := (show (t0 == 255) = true from by simp; omega)
            have x1 : (t1 == ((((⟨#[255, 254]⟩ : ByteArray)[1]'(by decide)).toNat : Nat) : Int)) = false := (show (t1 == 254) = false from by simp; omega)
            have x2 : (t0 == ((((⟨#[254, 255]⟩ : ByteArray)[0]'(by decide)).toNat : Nat) : Int)) = false := (show (t0 == 254) = false from by simp; omega)
            have x3 : (t0 == ((((⟨#[239, 187, 191]⟩ : ByteArray)[0]'(by decide)).toNat : Nat) : Int)) = false := (show (t0 == 239) = false from by simp; omega)
            have hmk : mk T = (1, 0) := by unfold mk; rw [if_neg (by have := HT.out; have := ht0; have := ht1; have := ht2; omega), if_neg (by have := HT.out; have := ht0; have := ht1; have := ht2; omega), if_neg (by have := HT.out; have := ht0; have := ht1; have := ht2; omega)]
            have HMK := Lib.hid hmk
            clear hmk ht0 ht1 ht2 hbyte
            try clear x
            try clear y
            try clear z
            try clear u
            try clear v
            have i0 : 0 < rl := by omega
            have i0i : (0 : Int) < (rl : Int) := by omega
            have i1 : 1 < rl := by omega
            have i1i : (1 : Int) < (rl : Int) := by omega
            have i2 : 2 < rl := by omega
            have i2i : (2 : Int) < (rl : Int) := by omega
            try clear r3
            clear r2
            go_wp2_with fail
            go_quiet (fail)
            go_wp2_with fail
            go_quiet (fail)
            go_wp2_with fail
            go_quiet (fail)
            go_wp2_with fail
            go_quiet (fail)
            go_wp2_with fail
            go_ret
            exact ⟨rfl, told_of0 (HS.out.drewN _) HA.out HG1.out (by first | exact Or.inl rfl | (have h := HEX.out; simp at h; exact Or.inr h)) (by have h := HFIN.out; first | exact h | (simp at h ⊢; try exact h)) 1 HMK.out⟩
        by_cases y : t0 = 254
        · by_cases z : t1 = 255
          · have b2 : (decide ((2 : Int) ≤ (rl : Int))) = true := by simp; omega
            have b2n : (decide (2 ≤ rl)) = true := by simp; omega
            have b3 : (decide ((3 : Int) ≤ (rl : Int))) = true := by simp; omega
            have b3n : (decide (3 ≤ rl)) = true := by simp; omega
            have x0 : (t0 == ((((⟨#[255, 254]⟩ : ByteArray)[0]'(by decide)).toNat : Nat) : Int)) = false := (show (t0 == 255) = false from by simp; omega)
            have x1 : (t0 == ((((⟨#[254, 255]⟩ : ByteArray)[0]'(by decide)).toNat : Nat) : Int)) = true := (show (t0 == 254) = true from by simp; omega)
            have x2 : (t1 == ((((⟨#[254, 255]⟩ : ByteArray)[1]'(by decide)).toNat : Nat) : Int)) = true := (show (t1 == 255) = true from by simp; omega)
            have hmk : mk T = (3, 2) := by unfold mk; rw [if_neg (by have := HT.out; have := ht0; have := ht1; have := ht2; omega), if_pos (by have := HT.out; have := ht0; have := ht1; have := ht2; omega)]
            have HMK := Lib.hid hmk
            clear hmk ht0 ht1 ht2 hbyte
            try clear x
            try clear y
            try clear z
            try clear u
            try clear v
            have i0 : 0 < rl := by omega
            have i0i : (0 : Int) < (rl : Int) := by omega
            have i1 : 1 < rl := by omega
            have i1i : (1 : Int) < (rl : Int) := by omega
            have i2 : 2 < rl := by omega
            have i2i : (2 : Int) < (rl : Int) := by omega
            try clear r3
            clear r2
            go_wp2_with fail
            go_quiet (fail)
            go_wp2_with fail
            go_quiet (fail)
            go_wp2_with fail
            go_quiet (fail)
            go_wp2_with fail
            go_ret
            exact ⟨rfl, told_of (HS.out.drewN _) HA.out HG1.out (by first | exact Or.inl rfl | (have h := HEX.out; simp at h; exact Or.inr h)) (by have h := HFIN.out; first | exact h | (simp at h ⊢; try exact h)) 3 2 HMK.out (by have := HT.out; omega)⟩
          · have b2 : (decide ((2 : Int) ≤ (rl : Int))) = true := by simp; omega
            have b2n : (decide (2 ≤ rl)) = true := by simp; omega
            have b3 : (decide ((3 : Int) ≤ (rl : Int))) = true := by simp; omega
            have b3n : (decide (3 ≤ rl)) = true := by simp; omega
            have x0 : (t0 == ((((⟨#[255, 254]⟩ : ByteArray)[0]'(by decide)).toNat : Nat) : Int)) = false := (show (t0 == 255) = false from by simp; omega)
            have x1 : (t0 == ((((⟨#[254, 255]⟩ : ByteArray)[0]'(by decide)).toNat : Nat) : Int)) = true := (show (t0 == 254) = true from by simp; omega)
            have x2 : (t1 == ((((⟨#[254, 255]⟩ : ByteArray)[1]'(by decide)).toNat : Nat) : Int)) = false := (show (t1 == 255) = false from by simp; omega)
            have x3 : (t0 == ((((⟨#[239, 187, 191]⟩ : ByteArray)[0]'(by decide)).toNat : Nat) : Int)) = false := (show (t0 == 239) = false from by simp; omega)
            have hmk : mk T = (1, 0) := by unfold mk; rw [if_neg (by have := HT.out; have := ht0; have := ht1; have := ht2; omega), if_neg (by have := HT.out; have := ht0; have := ht1; have := ht2; omega), if_neg (by have := HT.out; have := ht0; have := ht1; have := ht2; omega)]
            have HMK := Lib.hid hmk
            clear hmk ht0 ht1 ht2 hbyte
            try clear x
            try clear y
            try clear z
            try clear u
            try clear v
            have i0 : 0 < rl := by omega
            have i0i : (0 : Int) < (rl : Int) := by omega
            have i1 : 1 < rl := by omega
            have i1i : (1 : Int) < (rl : Int) := by omega
            have i2 : 2 < rl := by omega
            have i2i : (2 : Int) < (rl : Int) := by omega
            try clear r3
            clear r2
            go_wp2_with fail
            go_quiet (fail)
            go_wp2_with fail
            go_quiet (fail)
            go_wp2_with fail
            go_quiet (fail)
            go_wp2_with fail
            go_quiet (fail)
            go_wp2_with fail
            go_ret
            exact ⟨rfl, told_of0 (HS.out.drewN _) HA.out HG1.out (by first | exact Or.inl rfl | (have h := HEX.out; simp at h; exact Or.inr h)) (by have h := HFIN.out; first | exact h | (simp at h ⊢; try exact h)) 1 HMK.out⟩
        by_cases z : t0 = 239
        · by_cases u : t1 = 187
          · by_cases v : t2 = 191
            · have b2 : (decide ((2 : Int) ≤ (rl : Int))) = true := by simp; omega
              have b2n : (decide (2 ≤ rl)) = true := by simp; omega
              have b3 : (decide ((3 : Int) ≤ (rl : Int))) = true := by simp; omega
              have b3n : (decide (3 ≤ rl)) = true := by simp; omega
              have x0 : (t0 == ((((⟨#[255, 254]⟩ : ByteArray)[0]'(by decide)).toNat : Nat) : Int)) = false := (show (t0 == 255) = false from by simp; omega)
              have x1 : (t0 == ((((⟨#[254, 255]⟩ : ByteArray)[0]'(by decide)).toNat : Nat) : Int)) = false := (show (t0 == 254) = false from by simp; omega)
              have x2 : (t0 == ((((⟨#[239, 187, 191]⟩ : ByteArray)[0]'(by decide)).toNat : Nat) : Int)) = true := (show (t0 == 239) = true from by simp; omega)
              have x3 : (t1 == ((((⟨#[239, 187, 191]⟩ : ByteArray)[1]'(by decide)).toNat : Nat) : Int)) = true := (show (t1 == 187) = true from by simp; omega)
              have x4 : (t2 == ((((⟨#[239, 187, 191]⟩ : ByteArray)[2]'(by decide)).toNat : Nat) : Int)) = true := (show (t2 == 191) = true from by simp; omega)
              have hmk : mk T = (1, 3) := by unfold mk; rw [if_neg (by have := HT.out; have := ht0; have := ht1; have := ht2; omega), if_neg (by have := HT.out; have := ht0; have := ht1; have := ht2; omega), if_pos (by have := HT.out; have := ht0; have := ht1; have := ht2; omega)]
              have HMK := Lib.hid hmk
              clear hmk ht0 ht1 ht2 hbyte
              try clear x
              try clear y
              try clear z
              try clear u
              try clear v
              have i0 : 0 < rl := by omega
              have i0i : (0 : Int) < (rl : Int) := by omega
              have i1 : 1 < rl := by omega
              have i1i : (1 : Int) < (rl : Int) := by omega
              have i2 : 2 < rl := by omega
              have i2i : (2 : Int) < (rl : Int) := by omega
              try clear r3
              clear r2
              go_wp2_with fail
              go_quiet (fail)
              go_wp2_with fail
              go_quiet (fail)
              go_wp2_with fail
              go_quiet (fail)
              go_wp2_with fail
              go_quiet (fail)
              go_wp2_with fail
              go_ret
              exact ⟨rfl, told_of (HS.out.drewN _) HA.out HG1.out (by first | exact Or.inl rfl | (have h := HEX.out; simp at h; exact Or.inr h)) (by have h := HFIN.out; first | exact h | (simp at h ⊢; try exact h)) 1 3 HMK.out (by have := HT.out; omega)⟩
            · have b2 : (decide ((2 : Int) ≤ (rl : Int))) = true := by simp; omega
              have b2n : (decide (2 ≤ rl)) = true := by simp; omega
              have b3 : (decide ((3 : Int) ≤ (rl : Int))) = true := by simp; omega
              have b3n : (decide (3 ≤ rl)) = true := by simp; omega
              have x0 : (t0 == ((((⟨#[255, 254]⟩ : ByteArray)[0]'(by decide)).toNat : Nat) : Int)) = false := (show (t0 == 255) = false from by simp; omega)
              have x1 : (t0 == ((((⟨#[254, 255]⟩ : ByteArray)[0]'(by decide)).toNat : Nat) : Int)) = false := (show (t0 == 254) = false from by simp; omega)
              have x2 : (t0 == ((((⟨#[239, 187, 191]⟩ : ByteArray)[0]'(by decide)).toNat : Nat) : Int)) = true := (show (t0 == 239) = true from by simp; omega)
              have x3 : (t1 == ((((⟨#[239, 187, 191]⟩ : ByteArray)[1]'(by decide)).toNat : Nat) : Int)) = true := (show (t1 == 187) = true from by simp; omega)
              have x4 : (t2 == ((((⟨#[239, 187, 191]⟩ : ByteArray)[2]'(by decide)).toNat : Nat) : Int)) = false := (show (t2 == 191) = false from by simp; omega)
              have hmk : mk T = (1, 0) := by unfold mk; rw [if_neg (by have := HT.out; have := ht0; have := ht1; have := ht2; omega), if_neg (by have := HT.out; have := ht0; have := ht1; have := ht2; omega), if_neg (by have := HT.out; have := ht0; have := ht1; have := ht2; omega)]
              have HMK := Lib.hid hmk
              clear hmk ht0 ht1 ht2 hbyte
              try clear x
              try clear y
              try clear z
              try clear u
              try clear v
              have i0 : 0 < rl := by omega
              have i0i : (0 : Int) < (rl : Int) := by omega
              have i1 : 1 < rl := by omega
              have i1i : (1 : Int) < (rl : Int) := by omega
              have i2 : 2 < rl := by omega
              have i2i : (2 : Int) < (rl : Int) := by omega
              try clear r3
              clear r2
              go_wp2_with fail
              go_quiet (fail)
              go_wp2_with fail
              go_quiet (fail)
              go_wp2_with fail
              go_quiet (fail)
              go_wp2_with fail
              go_quiet (fail)
              go_wp2_with fail
              go_ret
              exact ⟨rfl, told_of0 (HS.out.drewN _) HA.out HG1.out (by first | exact Or.inl rfl | (have h := HEX.out; simp at h; exact Or.inr h)) (by have h := HFIN.out; first | exact h | (simp at h ⊢; try exact h)) 1 HMK.out⟩
          · have b2 : (decide ((2 : Int) ≤ (rl : Int))) = true := by simp; omega
            have b2n : (decide (2 ≤ rl)) = true := by simp; omega
            have b3 : (decide ((3 : Int) ≤ (rl : Int))) = true := by simp; omega
            have b3n : (decide (3 ≤ rl)) = true := by simp; omega
            have x0 : (t0 == ((((⟨#[255, 254]⟩ : ByteArray)[0]'(by decide)).toNat : Nat) : Int)) = false := (show (t0 == 255) = false from by simp; omega)
            have x1 : (t0 == ((((⟨#[254, 255]⟩ : ByteArray)[0]'(by decide)).toNat : Nat) : Int)) = false := (show (t0 == 254) = false from by simp; omega)
            have x2 : (t0 == ((((⟨#[239, 187, 191]⟩ : ByteArray)[0]'(by decide)).toNat : Nat) : Int)) = true := (show (t0 == 239) = true from by simp; omega)
            have x3 : (t1 == ((((⟨#[239, 187, 191]⟩ : ByteArray)[1]'(by decide)).toNat : Nat) : Int)) = false := (show (t1 == 187) = false from by simp; omega)
            have hmk : mk T = (1, 0) := by unfold mk; rw [if_neg (by have := HT.out; have := ht0; have := ht1; have := ht2; omega), if_neg (by have := HT.out; have := ht0; have := ht1; have := ht2; omega), if_neg (by have := HT.out; have := ht0; have := ht1; have := ht2; omega)]
            have HMK := Lib.hid hmk
            clear hmk ht0 ht1 ht2 hbyte
            try clear x
            try clear y
            try clear z
            try clear u
            try clear v
            have i0 : 0 < rl := by omega
            have i0i : (0 : Int) < (rl : Int) := by omega
            have i1 : 1 < rl := by omega
            have i1i : (1 : Int) < (rl : Int) := by omega
            have i2 : 2 < rl := by omega
            have i2i : (2 : Int) < (rl : Int) := by omega
            try clear r3
            clear r2
            go_wp2_with fail
            go_quiet (fail)
            go_wp2_with fail
            go_quiet (fail)
            go_wp2_with fail
            go_quiet (fail)
            go_wp2_with fail
            go_quiet (fail)
            go_wp2_with fail
            go_ret
            exact ⟨rfl, told_of0 (HS.out.drewN _) HA.out HG1.out (by first | exact Or.inl rfl | (have h := HEX.out; simp at h; exact Or.inr h)) (by have h := HFIN.out; first | exact h | (simp at h ⊢; try exact h)) 1 HMK.out⟩
        have b2 : (decide ((2 : Int) ≤ (rl : Int))) = true := by simp; omega
        have b2n : (decide (2 ≤ rl)) = true := by simp; omega
        have b3 : (decide ((3 : Int) ≤ (rl : Int))) = true := by simp; omega
        have b3n : (decide (3 ≤ rl)) = true := by simp; omega
        have x0 : (t0 == ((((⟨#[255, 254]⟩ : ByteArray)[0]'(by decide)).toNat : Nat) : Int)) = false := (show (t0 == 255) = false from by simp; omega)
        have x1 : (t0 == ((((⟨#[254, 255]⟩ : ByteArray)[0]'(by decide)).toNat : Nat) : Int)) = false := (show (t0 == 254) = false from by simp; omega)
        have x2 : (t0 == ((((⟨#[239, 187, 191]⟩ : ByteArray)[0]'(by decide)).toNat : Nat) : Int)) = false := (show (t0 == 239) = false from by simp; omega)
        have hmk : mk T = (1, 0) := by unfold mk; rw [if_neg (by have := HT.out; have := ht0; have := ht1; have := ht2; omega), if_neg (by have := HT.out; have := ht0; have := ht1; have := ht2; omega), if_neg (by have := HT.out; have := ht0; have := ht1; have := ht2; omega)]
        have HMK := Lib.hid hmk
        clear hmk ht0 ht1 ht2 hbyte
        try clear x
        try clear y
        try clear z
        try clear u
        try clear v
        have i0 : 0 < rl := by omega
        have i0i : (0 : Int) < (rl : Int) := by omega
        have i1 : 1 < rl := by omega
        have i1i : (1 : Int) < (rl : Int) := by omega
        have i2 : 2 < rl := by omega
        have i2i : (2 : Int) < (rl : Int) := by omega
        try clear r3
        clear r2
        go_wp2_with fail
        go_quiet (fail)
        go_wp2_with fail
        go_quiet (fail)
        go_wp2_with fail
        go_quiet (fail)
        go_wp2_with fail
        go_quiet (fail)
        go_wp2_with fail
        go_ret
        exact ⟨rfl, told_of0 (HS.out.drewN _) HA.out HG1.out (by first | exact Or.inl rfl | (have h := HEX.out; simp at h; exact Or.inr h)) (by have h := HFIN.out; first | exact h | (simp at h ⊢; try exact h)) 1 HMK.out⟩
end Go.Proofs.YtocbbekciphjgaaDoor.Pa
