/- A directive is added, and a tag is analyzed, by the doors of the package: the walks. -/
import Derived.Test.YtccmflnkhabilaaTgC
namespace Go.Proofs.Ytccmflnkhabilaa.Tg
open Go.RowKit
set_option linter.unusedVariables false
set_option linter.unusedSimpArgs false
theorem Own.below {w w' : World} {B : Nat} {V : Value} {A : Option Addr} {xs : List Int} (h : Own w B V A xs) (hb : Below w.heap.size w w') : Own w' B V A xs := by
  rcases h with h | ⟨b, e, h1, h2, h3⟩
  · exact .inl h
  · exact .inr ⟨b, e, h1, h2, (hb.block b (lt_of_get h3)).trans h3⟩
theorem Dirs.below {B p : Nat} {hs ps : List (List Int)} {V : Value} {X : List Value} {w w' : World} (h : Dirs B p hs ps V X w) (hb : Below w.heap.size w w') : Dirs B p hs ps V X w' := by
  have hp := h.lt
  have hle := h.le
  refine ⟨(hb.cell (p := ⟨p, 20, none⟩) (by simp; omega)).trans h.cell, (hb.frozen (p := ⟨p, 20, none⟩) (by simp; omega)).trans h.free, ?_, h.len, hp, by have := hb.size; omega, fun i hi => ?_⟩
  · exact h.own.kept (row := none) ⟨hb.os, hb.tape, hb.output, hb.size, fun i hi _ => hb.block i hi⟩ (by by_cases e : V.ownBlock = none; (exact .inl e); (exact .inr e))
  · obtain ⟨A, c, A', c', h1, h2, h3, h4⟩ := h.at i hi
    exact ⟨A, c, A', c', h1, h2, h3.below hb, h4.below hb⟩
set_option maxHeartbeats 1000000 in
theorem zzadd_any (B p c1 c2 : Nat) (A1 A2 : Option Addr) (xs1 xs2 : List Int) (hs ps : List (List Int)) (V : Value) (X : List Value) (w : World) (hl1 : Lies w A1 xs1.length xs1) (hl2 : Lies w A2 xs2.length xs2) (hn1 : xs1.length ≤ 2147483647) (hn2 : xs2.length ≤ 2147483647) (hD : Dirs B p hs ps V X w) (hm : hs.length ≤ 8)
    (hne : ∀ i, i < hs.length → same (strOfNums xs1) (strOfNums (hs.getD i [])) = false) :
    Calls Try.prog 13 #[.pointer (some ⟨p, 0, none⟩), .slice A1 xs1.length c1, .slice A2 xs2.length c2] w fun e w' => e = .returned (.bool true) ∧ Added B p hs ps xs1 xs2 w w' := by
  have hb : Below w.heap.size w (w.alloc (.cells #[.slice A1 xs1.length c1, .slice A2 xs2.length c2] 74)) := (Below.refl _ _).alloc (Nat.le_refl _) _
  have hadd := add_any B p w.heap.size c1 c2 A1 A2 xs1 xs2 hs ps V X (w.alloc (.cells #[.slice A1 xs1.length c1, .slice A2 xs2.length c2] 74)) (hl1.below hb) (hl2.below hb) (by simp) hn1 hn2 (hD.below hb) hm (by simp) (by simp) hne
  have hg : Grew B p w (w.alloc (.cells #[.slice A1 xs1.length c1, .slice A2 xs2.length c2] 74)) := .below (hb.mono hD.le) hD.lt
  have HA := Lib.hid hadd
  have HG := Lib.hid hg
  clear hb hadd hg hl1 hl2 hD hne hn1 hn2 hm
  generalize xs1.length = n1 at *
  generalize xs2.length = n2 at *
  go_enter Try.func13, Try.ntmps13
  go_wp2_with fail
  refine HA.out.mono ?_
  rintro e w1 ⟨rfl, h1⟩
  have H1 := Lib.hid h1
  clear h1
  go_wp2_with fail
  go_ret
  exact ⟨rfl, H1.out.1, HG.out.trans H1.out.2⟩
/-- Whether a tag begins with a prefix. -/
def fits (ts x : List Int) : Bool := decide (x.length ≤ ts.length) && same (strOfNums (ts.take x.length)) (strOfNums x)
/-- But for a few cells of one block, nothing has turned. -/
structure Cells (p : Nat) (w w' : World) : Prop where
  os : w'.os = w.os
  tape : w'.tape = w.tape
  output : w'.output = w.output
  size : w'.heap.size = w.heap.size
  block : ∀ k, k ≠ p → w'.heap[k]? = w.heap[k]?
theorem Cells.refl (p : Nat) (w : World) : Cells p w w := ⟨rfl, rfl, rfl, rfl, fun _ _ => rfl⟩
theorem Cells.drewN {p : Nat} {w w' : World} (h : Cells p w w') (n : Nat) : Cells p w (w'.drewN n) := ⟨h.os, h.tape, h.output, h.size, h.block⟩
theorem Cells.drew {p : Nat} {w w' : World} (h : Cells p w w') : Cells p w w'.drew := ⟨h.os, h.tape, h.output, h.size, h.block⟩
theorem Cells.set {p : Nat} {w w' : World} (h : Cells p w w') (o : Nat) (v : Value) : Cells p w (w'.setCell ⟨p, o, none⟩ v) :=
  ⟨h.os, h.tape, h.output, by simp; exact h.size, fun k hk => (Below.heap_setCell w' ⟨p, o, none⟩ v k hk).trans (h.block k hk)⟩
theorem Cells.lies {p n : Nat} {w w' : World} {A : Option Addr} {xs : List Int} (h : Cells p w w') (hl : Lies w A n xs) (hp : ∀ b o, A = some ⟨b, o, none⟩ → b ≠ p) : Lies w' A n xs :=
  ⟨hl.1, fun h0 => by obtain ⟨b, o, e, h1, h2⟩ := hl.2 h0; exact ⟨b, o, e, by rw [h.size]; exact h1, fun i hi => by rw [World.cell?_of_block (w := w) (a := ⟨b, o + i, none⟩) (h.block b (hp b o e))]; exact h2 i hi⟩⟩
theorem Lies.drop {w : World} {b o n : Nat} {xs : List Int} (h : Lies w (some ⟨b, o, none⟩) n xs) (m : Nat) (hm : m ≤ n) : Lies w (some ⟨b, o + m, none⟩) (n - m) (xs.drop m) := by
  refine ⟨by simp; have := h.1; omega, fun h0 => ?_⟩
  obtain ⟨b', o', e, hb, hc⟩ := h.2 (by omega)
  simp only [Option.some.injEq, Addr.mk.injEq, and_true] at e
  obtain ⟨rfl, rfl⟩ := e
  refine ⟨b, o + m, rfl, hb, fun i hi => ?_⟩
  rw [Nat.add_assoc, hc (m + i) (by omega), List.getD_eq_getElem?_getD, List.getD_eq_getElem?_getD, List.getElem?_drop]
/-- What the analysis of a tag leaves. -/
def Parts (p : Nat) (hs ps : List (List Int)) (ts : List Int) (T h0 : Value) (w w' : World) : Prop :=
  Cells p w w' ∧
  ((∃ k, k < hs.length ∧ (∀ j, j < k → fits ts (ps.getD j []) = false) ∧ fits ts (ps.getD k []) = true ∧
    (∃ A c, w'.cell? ⟨p, 36, none⟩ = some (.slice A (hs.getD k []).length c) ∧ Lies w' A (hs.getD k []).length (hs.getD k [])) ∧
    (∃ A c, w'.cell? ⟨p, 37, none⟩ = some (.slice A (ts.length - (ps.getD k []).length) c) ∧ Lies w' A (ts.length - (ps.getD k []).length) (ts.drop (ps.getD k []).length))) ∨
   ((∀ j, j < hs.length → fits ts (ps.getD j []) = false) ∧ w'.cell? ⟨p, 36, none⟩ = some h0 ∧ w'.cell? ⟨p, 37, none⟩ = some T))
theorem parts_found {p k nh nk b1 c : Nat} {hs ps : List (List Int)} {ts : List Int} {T h0 y z : Value} {w w' : World} {A1 A2 : Option Addr} (hC : Cells p w w') (hk : k < hs.length) (hno : ∀ j, j < k → fits ts (ps.getD j []) = false) (hf : fits ts (ps.getD k []) = true)
    (eh : (hs.getD k []).length = nh) (ek : (ps.getD k []).length = nk) (o1 : Lies w' A1 nh (hs.getD k [])) (p1 : ∀ b o, A1 = some ⟨b, o, none⟩ → 0 < nh → b ≠ p) (o2 : Lies w' A2 (ts.length - nk) (ts.drop nk)) (p2 : ∀ b o, A2 = some ⟨b, o, none⟩ → b ≠ p)
    (c36 : w'.cell? ⟨p, 36, none⟩ = some y) (c37 : w'.cell? ⟨p, 37, none⟩ = some z) :
    Parts p hs ps ts T h0 w ((w'.setCell ⟨p, 36, none⟩ (.slice A1 nh b1)).setCell ⟨p, 37, none⟩ (.slice A2 (ts.length - nk) c)) := by
  have hC2 : Cells p w' ((w'.setCell ⟨p, 36, none⟩ (.slice A1 nh b1)).setCell ⟨p, 37, none⟩ (.slice A2 (ts.length - nk) c)) := ((Cells.refl _ _).set 36 _).set 37 _
  refine ⟨(hC.set 36 _).set 37 _, .inl ⟨k, hk, hno, hf, ⟨A1, b1, ?_, ?_⟩, ⟨A2, c, ?_, ?_⟩⟩⟩
  · rw [cell_set_other _ _ _ _ _ (by omega), World.cell?_setCell_same _ _ _ c36, eh]
  · rw [eh]
    by_cases h0 : nh = 0
    · exact ⟨o1.1, fun h => by omega⟩
    · exact hC2.lies o1 fun b o e => p1 b o e (by omega)
  · rw [World.cell?_setCell_same _ _ _ (u := z) (by rw [cell_set_other _ _ _ _ _ (by omega)]; exact c37), ek]
  · rw [ek]
    exact hC2.lies o2 p2
set_option maxHeartbeats 4000000 in
set_option maxRecDepth 100000 in
theorem tag_any (B p tb c : Nat) (ts : List Int) (hs ps : List (List Int)) (V : Value) (X : List Value) (h0 s0 : Value) (w : World) (hD : Dirs B p hs ps V X w) (hm : hs.length ≤ 8) (hn : 0 < ts.length) (hn2 : ts.length ≤ 2147483647) (hc : ts.length ≤ c)
    (hl : Lies w (some ⟨tb, 0, none⟩) ts.length ts) (hpt : tb ≠ p) (c36 : w.cell? ⟨p, 36, none⟩ = some h0) (c37 : w.cell? ⟨p, 37, none⟩ = some s0) (f36 : w.frozen? ⟨p, 36, none⟩ = false) (f37 : w.frozen? ⟨p, 37, none⟩ = false) (hps : ∀ i, (ps.getD i []).length ≤ 2147483647) :
    Calls Try.prog 27 #[.pointer (some ⟨p, 0, none⟩), .slice (some ⟨tb, 0, none⟩) ts.length c] w fun e w' => e = .returned (.bool true) ∧ Parts p hs ps ts (.slice (some ⟨tb, 0, none⟩) ts.length c) h0 w w' := by
  have h20 := hD.cell
  have hpB := hD.lt
  have hBw := hD.le
  have hform := hD.form
  have HD := Lib.hid hD
  have HFO := Lib.hid hform
  have HL := Lib.hid hl
  have HPS := Lib.hid hps
  have H20 := Lib.hid h20
  have HC36 := Lib.hid c36
  clear hD hform hl hps h20 c36
  obtain ⟨t, HT⟩ : ∃ n : Nat, Hid (ts.length = n) := ⟨_, rfl⟩
  obtain ⟨n, HN⟩ : ∃ n : Nat, Hid (hs.length = n) := ⟨_, rfl⟩
  rw [HT.out] at HL hn hn2 hc
  rw [HN.out] at HFO hm
  obtain ⟨A, cap, HV⟩ : ∃ A cap, Hid (V = .slice A n cap) := by
    rcases HFO.out with ⟨h, A, c, e⟩ | ⟨g, c, _, e, _⟩
    · obtain rfl : n = 0 := by rw [← HN.out, h]; rfl
      exact ⟨A, c, e⟩
    · exact ⟨_, c, e⟩
  rw [HV.out] at H20
  rw [HT.out]
  have ht0 : ((t : Int) == 0) = false := by simp; omega
  go_enter Try.func27, Try.ntmps27
  try simp only [List.append]
  go_wp2_with fail
  go_loopw [5, 6] (fun i _ wr => ∃ k : Nat, k ≤ n ∧ i = .int .i64 k ∧ (∀ j, j < k → fits ts (ps.getD j []) = false) ∧ ∃ d, wr = w.drewN d) (fun i _ _ => n - (intOf i).toNat)
  case atStart => exact ⟨0, Nat.zero_le _, rfl, fun j hj => by omega, 0, rfl⟩
  obtain ⟨k, hk, rfl, hno, d, hd⟩ := hrel
  have HNO := Lib.hid hno
  have HWD := Lib.hid hd
  have HDR : Hid (Dirs B p hs ps V X wr) := by rw [hd]; exact HD.out.drewN d
  have HLR : Hid (Lies wr (some ⟨tb, 0, none⟩) t ts) := by rw [hd]; exact HL.out
  have c20 : wr.cell? ⟨p, 20, none⟩ = some (.slice A n cap) := by rw [hd]; exact H20.out
  have d37 : wr.cell? ⟨p, 37, none⟩ = some s0 := by rw [hd]; exact c37
  have d36 : wr.cell? ⟨p, 36, none⟩ = some h0 := by rw [hd]; exact HC36.out
  have e36 : wr.frozen? ⟨p, 36, none⟩ = false := by rw [hd]; exact f36
  have e37 : wr.frozen? ⟨p, 37, none⟩ = false := by rw [hd]; exact f37
  have HCE : Hid (Cells p w wr) := by rw [hd]; exact (Cells.refl p w).drewN d
  clear hno hd HD HL H20 HC36 c37 f36 f37
  by_cases hkn : k < n
  · obtain ⟨g, hg1, hg2, hcl⟩ : ∃ g, A = some ⟨g, 0, none⟩ ∧ n ≤ cap ∧ ∀ i, i < n * 2 → wr.cell? ⟨g, i, none⟩ = X[i]? := by
      rcases HDR.out.form with ⟨h, _⟩ | ⟨g, c, _, e, _, _, hc, hx⟩
      · have := HN.out; rw [h] at this; simp at this; omega
      · rw [HV.out, HN.out] at e
        rw [HN.out] at hc hx
        simp only [Value.slice.injEq] at e
        obtain ⟨e1, _, e2⟩ := e
        exact ⟨g, e1, by omega, hx⟩
    subst hg1
    obtain ⟨a1, b1, a2, b2, x1, x2, o1, o2⟩ := HDR.out.at k (by rw [HN.out]; exact hkn)
    have ck : wr.cell? ⟨g, k * 2, none⟩ = some (.slice a1 (hs.getD k []).length b1) := by rw [hcl (k * 2) (by omega), Nat.mul_comm]; exact x1
    have ck1 : wr.cell? ⟨g, k * 2 + 1, none⟩ = some (.slice a2 (ps.getD k []).length b2) := by rw [hcl (k * 2 + 1) (by omega), Nat.mul_comm]; exact x2
    have hpx := prefix_any (some ⟨tb, 0, none⟩) a2 t c (ps.getD k []).length b2 ts (ps.getD k []) wr hc HLR.out o2.lies
    have hfit : (decide ((ps.getD k []).length ≤ t) && same (strOfNums (ts.take (ps.getD k []).length)) (strOfNums (ps.getD k []))) = fits ts (ps.getD k []) := by unfold fits; rw [HT.out]
    rw [hfit] at hpx
    have hpk := HPS.out k
    have HO1 := Lib.hid o1
    clear x1 x2 o1 o2 hcl hfit
    obtain ⟨nk, HNK⟩ : ∃ m : Nat, Hid ((ps.getD k []).length = m) := ⟨_, rfl⟩
    obtain ⟨nh, HNH⟩ : ∃ m : Nat, Hid ((hs.getD k []).length = m) := ⟨_, rfl⟩
    rw [HNK.out] at ck1 hpx hpk
    rw [HNH.out] at ck
    cases hf : fits ts (ps.getD k []) with
    | false =>
      rw [hf] at hpx
      have HPX := Lib.hid hpx
      have HF := Lib.hid hf
      clear hpx hf
      go_wp2_with fail
      refine HPX.out.mono ?_
      rintro e w' ⟨rfl, rfl⟩
      go_wp2_with fail
      go_roundw
      case rel => exact ⟨k + 1, by omega, by go_num, fun j hj => by (by_cases e : j = k; (subst e; exact HF.out); (exact HNO.out j (by omega))), d, HWD.out⟩
      case measure => simp [intOf]; omega
    | true =>
      have hlt : nk ≤ t := by
        unfold fits at hf
        rw [Bool.and_eq_true] at hf
        have := of_decide_eq_true hf.1
        rw [HNK.out, HT.out] at this
        exact this
      rw [hf] at hpx
      have HPX := Lib.hid hpx
      have HF := Lib.hid hf
      clear hpx hf
      have hl1 : (nk : Int) ≤ (t : Int) := by omega
      have hl2 : (t : Int) ≤ (c : Int) := by omega
      have hp1 : ∀ b o, a1 = some ⟨b, o, none⟩ → 0 < nh → b ≠ p := fun b o e h0 => by
        rcases HO1.out with h | ⟨b', e', hB, _⟩
        · have := HNH.out; rw [h] at this; simp at this; omega
        · rw [e] at e'; simp at e'; omega
      have HP1 := Lib.hid hp1
      have hl1o : Lies wr a1 nh (hs.getD k []) := by rw [← HNH.out]; exact HO1.out.lies
      have HL1O := Lib.hid hl1o
      clear hp1 hl1o
      by_cases hcc : c = nk
      · obtain rfl : t = nk := by omega
        subst hcc
        have hz : Lies wr (some ⟨tb, 0, none⟩) (ts.length - c) (ts.drop c) := ⟨by rw [List.length_drop], fun h0 => by have := HT.out; omega⟩
        have HZ := Lib.hid hz
        clear hz
        go_wp2_with fail
        refine HPX.out.mono ?_
        rintro e w' ⟨rfl, rfl⟩
        go_wp2_with fail
        go_ret
        refine ⟨rfl, ?_⟩
        have := parts_found (T := .slice (some ⟨tb, 0, none⟩) c c) (h0 := h0) (b1 := b1) (c := 0) HCE.out (by rw [HN.out]; exact hkn) HNO.out HF.out HNH.out HNK.out HL1O.out HP1.out HZ.out (fun b o e => by simp only [Option.some.injEq, Addr.mk.injEq] at e; omega) d36 d37
        rw [HT.out] at this
        simpa using this
      · have hz : Lies wr (some ⟨tb, 0 + nk, none⟩) (t - nk) (ts.drop nk) := HLR.out.drop nk hlt
        rw [Nat.zero_add, ← HT.out] at hz
        have HZ := Lib.hid hz
        clear hz
        go_wp2_with fail
        refine HPX.out.mono ?_
        rintro e w' ⟨rfl, rfl⟩
        go_wp2_with fail
        go_ret
        refine ⟨rfl, ?_⟩
        have := parts_found (T := .slice (some ⟨tb, 0, none⟩) t c) (h0 := h0) (b1 := b1) (c := c - nk) HCE.out (by rw [HN.out]; exact hkn) HNO.out HF.out HNH.out HNK.out HL1O.out HP1.out HZ.out (fun b o e => by simp only [Option.some.injEq, Addr.mk.injEq] at e; omega) d36 d37
        rw [HT.out] at this
        exact this
  · obtain rfl : k = n := by omega
    clear hkn hk
    go_wp2_with fail
    go_ret
    refine ⟨rfl, HCE.out.set 37 _, .inr ⟨fun j hj => HNO.out j (by rw [HN.out] at hj; exact hj), ?_, ?_⟩⟩
    · rw [cell_set_other _ _ _ _ _ (by omega)]; exact d36
    · exact World.cell?_setCell_same _ _ _ d37
set_option maxHeartbeats 1000000 in
theorem zztag_any (B p tb c : Nat) (ts : List Int) (hs ps : List (List Int)) (V : Value) (X : List Value) (h0 s0 : Value) (w : World) (hD : Dirs B p hs ps V X w) (hm : hs.length ≤ 8) (hn : 0 < ts.length) (hn2 : ts.length ≤ 2147483647) (hc : ts.length ≤ c)
    (hl : Lies w (some ⟨tb, 0, none⟩) ts.length ts) (hpt : tb ≠ p) (c36 : w.cell? ⟨p, 36, none⟩ = some h0) (c37 : w.cell? ⟨p, 37, none⟩ = some s0) (f36 : w.frozen? ⟨p, 36, none⟩ = false) (f37 : w.frozen? ⟨p, 37, none⟩ = false) (hps : ∀ i, (ps.getD i []).length ≤ 2147483647) :
    Calls Try.prog 14 #[.pointer (some ⟨p, 0, none⟩), .slice (some ⟨tb, 0, none⟩) ts.length c] w fun e w' => e = .returned (.bool true) ∧ Parts p hs ps ts (.slice (some ⟨tb, 0, none⟩) ts.length c) h0 w w' := by
  have ht := tag_any B p tb c ts hs ps V X h0 s0 w hD hm hn hn2 hc hl hpt c36 c37 f36 f37 hps
  have HT := Lib.hid ht
  clear ht hD hm hn hn2 hc hl hpt c36 c37 f36 f37 hps
  generalize ts.length = t at *
  go_enter Try.func14, Try.ntmps14
  go_wp2_with fail
  refine HT.out.mono ?_
  rintro e w1 ⟨rfl, h1⟩
  have H1 := Lib.hid h1
  clear h1
  go_wp2_with fail
  go_ret
  exact ⟨rfl, H1.out⟩
set_option maxHeartbeats 1000000 in
theorem parts_any (p : Nat) (x y : Value) (w : World) (c36 : w.cell? ⟨p, 36, none⟩ = some x) (c37 : w.cell? ⟨p, 37, none⟩ = some y) :
    Calls Try.prog 15 #[.pointer (some ⟨p, 0, none⟩)] w fun e w' => e = .returned (.tuple #[x, y]) ∧ ∃ n, w' = w.drewN n := by
  go_enter Try.func15, Try.ntmps15
  go_wp2_with fail
  go_quiet (fail)
  go_wp2_with fail
  go_ret2
  exact ⟨rfl, _, rfl⟩
end Go.Proofs.Ytccmflnkhabilaa.Tg
