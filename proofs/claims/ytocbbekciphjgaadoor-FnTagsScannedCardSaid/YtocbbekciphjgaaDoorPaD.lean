/- The reader of a text (yaml_string_read_handler): the walk. -/
import Derived.Test.YtocbbekciphjgaaDoorPaC
import Derived.StillTail
import Derived.StillTactics
namespace Go.Proofs.YtocbbekciphjgaaDoor.Pa
open Go.RowKit
set_option linter.unusedVariables false
set_option linter.unusedSimpArgs false
/-- The bytes of a text, as values. -/
def vs (l : List Int) : List Value := l.map (Value.int .u8)
theorem vs_len (l : List Int) : (vs l).length = l.length := by unfold vs; simp
theorem vs_at (l : List Int) (i : Nat) (h : i < l.length) : (vs l)[i]? = some (.int .u8 (l.getD i 0)) := by
  unfold vs
  rw [List.getElem?_map, List.getD_eq_getElem?_getD, List.getElem?_eq_getElem h]
  rfl
theorem vs_one (l : List Int) : ∀ v ∈ vs l, v.oneCell' = true := by
  intro v hv
  unfold vs at hv
  rw [List.mem_map] at hv
  obtain ⟨x, _, rfl⟩ := hv
  rfl
theorem wpList_copy_bk {ops : Array Oper} {rest : List Oper} {o : Oper} {a : Act} {w : World} {Q : Exit → Act → World → Prop} (hgd : o.guard = none) (d s : Operand)
    (ho : o.op = .call { callee := .builtin .copy, args := #[d, s], argTypes := #[22, 22] }) (g off dLen dCap : Nat) (ad : Addr) (sLen sCap : Nat) (hd : a.eval d = .slice (some ⟨g, off, none⟩) dLen dCap) (hs : a.eval s = .slice (some ad) sLen sCap)
    (L : List Value) (hg : Bk w g 5 L) (cs : List Value) (hn : cs.length = Nat.min sLen dLen) (hsrc : ∀ j v, cs[j]? = some v → w.cell? (ad.add j) = some v) (hfit : off + cs.length ≤ L.length) (h1 : ∀ v ∈ cs, v.oneCell' = true)
    (h : wpList Tryd.prog ops Q rest (a.put o.dst (.int .i64 cs.length)) (w.setRow g (splice L off cs).toArray)) : wpList Tryd.prog ops Q (o :: rest) a w := by
  refine wpList_copy_own hgd d s 22 22 ho 5 Tryd.underlying22 (by kernel_rfl) g off dLen dCap ad sLen sCap hd hs L.toArray 5 hg cs hn hsrc (by simpa using hfit) h1 ?_
  exact h
/-- The text's bytes lie here. -/
def In (w : World) (A : Option Addr) (T : List Int) : Prop := T.length = 0 ∨ ∃ b o, A = some ⟨b, o, none⟩ ∧ b < w.heap.size ∧ ∀ i, i < T.length → w.cell? ⟨b, o + i, none⟩ = some (.int .u8 (T.getD i 0))
set_option maxHeartbeats 1000000 in
set_option maxRecDepth 100000 in
theorem rd_eof (p r o m c : Nat) (A : Option Addr) (n ci : Nat) (L : List Value) (E : Value) (w : World) (hn : n ≤ 2147483647) (h : Bk w p 120 L) (h13 : L[13]? = some (.slice A n ci)) (h14 : L[14]? = some (.int .i64 (n : Nat))) (hE : w.cell? ⟨2, 0, none⟩ = some E) :
    Calls Tryd.prog 129 #[.pointer (some ⟨p, 0, none⟩), .slice (some ⟨r, o, none⟩) m c] w fun e w' => e = .returned (.tuple #[.int .i64 0, E]) ∧ ∃ k, w' = w.drewN k := by
  obtain ⟨c13, _⟩ := h.cell 13
  obtain ⟨c14, _⟩ := h.cell 14
  rw [h13] at c13
  rw [h14] at c14
  clear h h13 h14
  go_enter Tryd.func129, Tryd.ntmps129
  go_wp2_with fail
  go_quiet (fail)
  go_wp2_with fail
  go_quiet (fail)
  go_wp2_with fail
  go_ret2
  exact ⟨rfl, _, drewN_add _ _ _⟩
set_option maxHeartbeats 1000000 in
set_option maxRecDepth 100000 in
theorem rd_some (p r o m c : Nat) (A : Option Addr) (ci ip k : Nat) (T : List Int) (L RL : List Value) (w : World) (hn : T.length ≤ 2147483647) (h : Bk w p 120 L) (hl : L.length = 52) (h13 : L[13]? = some (.slice A T.length ci)) (h14 : L[14]? = some (.int .i64 (ip : Nat))) (hci : T.length ≤ ci)
    (hin : In w A T) (hip : ip < T.length) (hr : Bk w r 5 RL) (hm : o + m ≤ RL.length) (hmm : RL.length ≤ 1000000) (hk : k = min m (T.length - ip)) (hpr : p ≠ r) :
    Calls Tryd.prog 129 #[.pointer (some ⟨p, 0, none⟩), .slice (some ⟨r, o, none⟩) m c] w fun e w' => e = .returned (.tuple #[.int .i64 k, .nilIface]) ∧
      Bk w' p 120 (L.set 14 (.int .i64 (ip + k : Nat))) ∧ Bk w' r 5 (splice RL o (vs ((T.drop ip).take k))) ∧ Kp [p, r] w w' ∧ w'.heap.size = w.heap.size := by
  obtain ⟨c13, _⟩ := h.cell 13
  obtain ⟨c14, f14⟩ := h.cell 14
  rw [h13] at c13
  have h14' := h14
  rw [h14] at c14
  rcases hin with h0 | ⟨b, io, rfl, hb, hc⟩
  · omega
  have hne : ((ip : Int) == (T.length : Int)) = false := by simp; omega
  have hip2 : (ip : Int) ≤ (T.length : Int) := by omega
  have hcap : ¬ (ci = ip) := by omega
  have H := Lib.hid h
  have HR := Lib.hid hr
  have HC := Lib.hid hc
  have HK := Lib.hid hk
  clear h h13 h14 hr hc hk
  go_enter Tryd.func129, Tryd.ntmps129
  go_wp2_with fail
  go_quiet (fail)
  go_wp2_with fail
  have hw : Kp [p, r] w (w.drewN nq) ∧ (w.drewN nq).heap.size = w.heap.size := ⟨(Kp.refl _ _).drewN nq, rfl⟩
  have H1 : Hid (Bk (w.drewN nq) p 120 L) := H.out
  have HR1 : Hid (Bk (w.drewN nq) r 5 RL) := HR.out
  have HC1 : Hid (∀ i, i < T.length → (w.drewN nq).cell? ⟨b, io + i, none⟩ = some (.int .u8 (T.getD i 0))) := HC.out
  have d13 : (w.drewN nq).cell? ⟨p, 13, none⟩ = some (.slice (some ⟨b, io, none⟩) T.length ci) := c13
  have d14 : (w.drewN nq).cell? ⟨p, 14, none⟩ = some (.int .i64 ip) := c14
  have e14 : (w.drewN nq).frozen? ⟨p, 14, none⟩ = false := f14
  have HW := Lib.hid hw
  clear hw c13 c14 f14 H HR HC
  generalize w.drewN nq = w1 at *
  refine wp_region_still_tail 10 (by kernel_rfl) (by kernel_rfl) ?_
  simp only [List.take_succ_cons, List.take_zero, List.drop_succ_cons, List.drop_zero]
  repeat still_step
  refine wpStill_nil ?_
  change wpList _ _ _ _ _ w1.drew
  have hcs : (vs ((T.drop ip).take k)).length = k := by rw [vs_len]; have := HK.out; simp; omega
  refine wpList_copy_bk rfl (.tmp 17) (.tmp 26) rfl r o m c ⟨b, io + ip, none⟩ (T.length - ip) (ci - ip) rfl rfl RL HR1.out.drew (vs ((T.drop ip).take k)) (by rw [hcs, HK.out, Nat.min_comm]) ?_ (by have := HK.out; omega) (vs_one _) ?_
  · intro j v hj
    have hjk : j < k := by
      by_cases hh : j < k
      · exact hh
      · rw [List.getElem?_eq_none (by omega)] at hj; cases hj
    have e : (⟨b, io + ip, none⟩ : Addr).add j = ⟨b, io + (ip + j), none⟩ := by
      unfold Addr.add
      split
      · rename_i h; subst h; rfl
      · simp; omega
    rw [e]
    have h2 := HC1.out (ip + j) (by have := HK.out; omega)
    rw [vs_at _ _ (by rw [vs_len] at hcs; omega)] at hj
    rw [show ((T.drop ip).take k).getD j 0 = T.getD (ip + j) 0 by rw [List.getD_eq_getElem?_getD, List.getD_eq_getElem?_getD, List.getElem?_take_of_lt hjk, List.getElem?_drop]] at hj
    rw [← hj]
    exact h2
  have hkp : Kp [p, r] w (w1.drew.setRow r (splice RL o (vs ((T.drop ip).take k))).toArray) := HW.out.1.drew.setRow r _ (by simp)
  have hbr : Bk (w1.drew.setRow r (splice RL o (vs ((T.drop ip).take k))).toArray) r 5 (splice RL o (vs ((T.drop ip).take k))) := Bk.row HR1.out.drew _
  have hbp : Bk (w1.drew.setRow r (splice RL o (vs ((T.drop ip).take k))).toArray) p 120 L := (setRow_other w1.drew r p _ hpr).trans H1.out
  have hsz : (w1.drew.setRow r (splice RL o (vs ((T.drop ip).take k))).toArray).heap.size = w.heap.size := by simp [World.setRow]; exact HW.out.2
  have HKP := Lib.hid hkp
  have HBR := Lib.hid hbr
  have HBP := Lib.hid hbp
  have HSZ := Lib.hid hsz
  rw [hcs]
  obtain ⟨g14, k14⟩ := hbp.cell 14
  rw [h14'] at g14
  clear hkp hbr hbp hsz hcs d13 d14 e14 H1 HR1 HC1 HW
  generalize w1.drew.setRow r (splice RL o (vs ((T.drop ip).take k))).toArray = w2 at *
  have hkb : (ip : Int) + k ≤ 2147483647 := by have := HK.out; omega
  go_wp2_with fail
  go_ret2
  refine ⟨rfl, ?_, ?_, ?_, ?_⟩
  · have := HBP.out.set 14 (.int .i64 (ip + k : Nat))
    exact this
  · exact (HBR.out.other p 14 _ (Ne.symm hpr))
  · exact HKP.out.setCell p 14 _ (by simp)
  · simpa using HSZ.out
/-- What the reader leaves: k bytes more, from place o on. -/
structure Rd (p r o k ip : Nat) (T : List Int) (L RL : List Value) (w w' : World) : Prop where
  ex : ∃ L' RL', Bk w' p 120 L' ∧ L'.length = L.length ∧ L'[14]? = some (.int .i64 (ip + k : Nat)) ∧ (∀ j, j ≠ 14 → L'[j]? = L[j]?) ∧
    Bk w' r 5 RL' ∧ RL'.length = RL.length ∧ (∀ j, j < o → RL'[j]? = RL[j]?) ∧ (∀ j, j < k → RL'[o + j]? = some (.int .u8 (T.getD (ip + j) 0)))
  kp : Kp [p, r] w w'
  size : w'.heap.size = w.heap.size
theorem rd_any (p r o m c : Nat) (A : Option Addr) (ci ip k : Nat) (T : List Int) (L RL : List Value) (E : Value) (w : World) (hn : T.length ≤ 2147483647) (h : Bk w p 120 L) (hl : L.length = 52) (h13 : L[13]? = some (.slice A T.length ci)) (h14 : L[14]? = some (.int .i64 (ip : Nat))) (hci : T.length ≤ ci)
    (hin : In w A T) (hip : ip ≤ T.length) (hr : Bk w r 5 RL) (hm : o + m ≤ RL.length) (hmm : RL.length ≤ 1000000) (hk : k = min m (T.length - ip)) (hpr : p ≠ r) (hE : w.cell? ⟨2, 0, none⟩ = some E) :
    Calls Tryd.prog 129 #[.pointer (some ⟨p, 0, none⟩), .slice (some ⟨r, o, none⟩) m c] w fun e w' => e = .returned (.tuple #[.int .i64 k, if ip = T.length then E else .nilIface]) ∧ Rd p r o k ip T L RL w w' := by
  by_cases he : ip = T.length
  · subst he
    obtain rfl : k = 0 := by omega
    rw [if_pos rfl]
    refine (rd_eof p r o m c A T.length ci L E w hn h h13 h14 hE).mono ?_
    rintro e w' ⟨rfl, n, rfl⟩
    exact ⟨rfl, ⟨⟨L, RL, h, rfl, h14, fun _ _ => rfl, hr, rfl, fun _ _ => rfl, fun j hj => by omega⟩, (Kp.refl _ _).drewN n, rfl⟩⟩
  · rw [if_neg he]
    refine (rd_some p r o m c A ci ip k T L RL w hn h hl h13 h14 hci hin (by omega) hr hm hmm hk hpr).mono ?_
    rintro e w' ⟨rfl, h1, h2, h3, h4⟩
    have hlv : (vs ((T.drop ip).take k)).length = k := by rw [vs_len]; simp; omega
    refine ⟨rfl, ⟨⟨_, _, h1, by simp, by rw [List.getElem?_set_self (by omega)], fun j hj => List.getElem?_set_ne (Ne.symm hj), h2, length_splice _ _ _ (by omega), fun j hj => ?_, fun j hj => ?_⟩, h3, h4⟩⟩
    · rw [splice_at _ _ _ (by omega), if_pos hj]
    · rw [splice_at _ _ _ (by omega), if_neg (by omega), if_pos (by omega), Nat.add_sub_cancel_left, vs_at _ _ (by rw [vs_len] at hlv; omega), List.getD_eq_getElem?_getD, List.getElem?_take_of_lt hj, List.getElem?_drop, ← List.getD_eq_getElem?_getD]
end Go.Proofs.YtocbbekciphjgaaDoor.Pa
