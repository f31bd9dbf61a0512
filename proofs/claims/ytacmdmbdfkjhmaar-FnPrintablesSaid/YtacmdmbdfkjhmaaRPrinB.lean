/- impl.Class for the class of what may be printed, at the first character: the walk. -/
import Derived.Test.YtacmdmbdfkjhmaaRPrinA
import Derived.Laws.AppendOwn
import Derived.RowKit3
namespace Go.Proofs.YtacmdmbdfkjhmaaR.Prin
open Go.RowKit
set_option linter.unusedVariables false
theorem info5 : (Try.prog.info? 5).map (fun i => (i.zero, i.size, i.bytes)) = some (some (.int .u8 0), 1, 1) := by kernel_rfl
set_option maxHeartbeats 1000000 in
set_option maxRecDepth 100000 in
theorem class_any (tb t n c : Nat) (l : List Int) (hl : l.length = n) (hn : 1 ≤ n) (hn3 : n ≤ 3) (hb : ∀ x ∈ l, 0 ≤ x ∧ x ≤ 255) (w : World)
    (hc : ∀ j, j < n → w.cell? ⟨tb, t + j, none⟩ = some (.int .u8 (l.getD j 0))) :
    Calls Try.prog 20 #[.int .i64 4, .slice (some ⟨tb, t, none⟩) n c, .int .i64 0] w fun e w' => e = .returned (.bool (pb (l.getD 0 0) (l.getD 1 0) (l.getD 2 0))) ∧ Below w.heap.size w w' := by
  obtain ⟨i0, hi, hz0, hz1, hz2⟩ := info_parts info5
  have hlt : tb < w.heap.size := by
    have := hc 0 hn
    apply Classical.byContradiction
    intro h
    simp [World.cell?, Array.getElem?_eq_none (Nat.not_lt.1 h)] at this
  have HC := Lib.hid hc
  clear hc
  go_enter Try.func20, Try.ntmps20
  try simp only [List.append]
  go_wp2_with ((at_builtin; refine wpList_append_own _ rfl (.tmp 16) (.tmp 17) 24 rfl w.heap.size 5 i0 (.int .u8 0) 1 1 Try.underlying24 hi hz0 hz1 hz2 rfl (by decide) _ 0 [] rfl ?c1 ⟨tb, t, none⟩ n c (l.map (Value.int .u8)) rfl ?c2 ?c3 ?c4 ?c5 ?c6 ?c7 ?_))
  case c1 => exact ⟨rfl, .inr ⟨w.heap.size, 0, #[], rfl, Nat.le_refl _, (by show (w.heap.push _)[w.heap.size]? = _; simp), Nat.zero_le _, Nat.zero_le _, rfl, rfl⟩⟩
  case c2 => simp [hl]
  case c3 =>
    intro j u hu
    have hj : j < n := by
      apply Classical.byContradiction
      intro h
      rw [List.getElem?_eq_none (by simp [hl]; omega)] at hu
      simp at hu
    have h2 := HC.out j hj
    have e : ({ block := tb, off := t } : Addr).add j = ⟨tb, t + j, none⟩ := by
      unfold Addr.add
      split
      · rename_i h; subst h; rfl
      · rfl
    rw [e, ((Below.refl w.heap.size w).alloc (Nat.le_refl _) _).cell (p := ⟨tb, t + j, none⟩) hlt, h2]
    rw [List.getElem?_map] at hu
    rw [List.getD_eq_getElem?_getD]
    cases h3 : l[j]? with
    | none => rw [h3] at hu; simp at hu
    | some q => rw [h3] at hu; simpa using hu
  case c4 => intro u hu; obtain ⟨q, _, rfl⟩ := List.mem_map.1 hu; rfl
  case c5 => unfold maxLen; omega
  case c6 => omega
  case c7 => simp
  intro v1 w1 hown1 hg1 hne1
  have HO1 := Lib.hid hown1
  have HG1 := Lib.hid hg1
  clear hown1 hg1
  have hb1 : Below w.heap.size w w1 := by
    refine ((Below.refl _ _).alloc (Nat.le_refl _) _).grown HG1.out (by simp) ?_
    intro k hk
    simp [Value.ownBlock] at hk
    omega
  have hz1 := hb1.size
  have HB1 := Lib.hid hb1
  clear hb1
  go_wp2_with ((at_builtin; refine wpList_append_own _ rfl (.tmp 18) (.tmp 19) 24 rfl w.heap.size 5 i0 (.int .u8 0) 1 1 Try.underlying24 hi hz0 ‹i0.size = 1› hz2 rfl (by decide) v1 n (l.map (Value.int .u8)) rfl (HO1.out.alloc _) ⟨w1.heap.size, 0, none⟩ 2 2 [.int .u8 0, .int .u8 0] rfl ?d2 ?d3 ?d4 ?d5 ?d6 ?d7 ?_))
  case d2 => rfl
  case d3 =>
    intro j u hu
    match j, hu with
    | 0, hu => simp at hu; subst hu; simp [Addr.add, World.cell?_alloc_new]
    | 1, hu => simp at hu; subst hu; simp [Addr.add, World.cell?_alloc_new]
    | j + 2, hu => simp at hu
  case d4 => intro u hu; simp at hu; subst hu; rfl
  case d5 => unfold maxLen; omega
  case d6 => omega
  case d7 => simp; omega
  intro v2 w2 hown2 hg2 hne2
  have hb2 : Below w.heap.size w w2 := by
    refine (HB1.out.alloc hz1 _).grown hg2 (by simp; omega) ?_
    intro k hk
    exact ((HO1.out.lt k hk).1)
  have hcells := fun g hg => World.ownsRow.cells hown2 (g := g) hg
  obtain ⟨_, ⟨rfl, h0⟩ | ⟨g, cap, cur, rfl, hbase, hheap, hle, hcap, hsize, htake⟩⟩ := hown2
  · omega
  have hget : ∀ j, j < 3 → w2.cell? ⟨g, j, none⟩ = some (.int .u8 (l.getD j 0)) := by
    intro j hj
    have h := hcells g rfl j (.int .u8 (l.getD j 0)) ?_
    · have e : ({ block := g, off := 0 } : Addr).add j = ⟨g, j, none⟩ := by
        unfold Addr.add
        split
        · rename_i h; subst h; rfl
        · simp
      rw [e] at h
      exact h
    · by_cases h1 : j < n
      · rw [List.getElem?_append_left (by simp [hl]; exact h1), List.getElem?_map, List.getD_eq_getElem?_getD, List.getElem?_eq_getElem (by omega)]
        rfl
      · rw [List.getElem?_append_right (by simp [hl]; omega), List.getD_eq_getElem?_getD, List.getElem?_eq_none (l := l) (by omega)]
        simp only [List.length_map, hl]
        have : j - n = 0 ∨ j - n = 1 := by omega
        rcases this with h | h <;> rw [h] <;> rfl
  have hbd : ∀ j, 0 ≤ l.getD j 0 ∧ l.getD j 0 ≤ 255 := by
    intro j
    rw [List.getD_eq_getElem?_getD]
    cases h : l[j]? with
    | none => simp
    | some q => exact hb q (List.mem_of_getElem? h)
  have hp := fun w' (a : w'.cell? ⟨g, 0, none⟩ = _) b c => p_any g 0 (n + 2) cap (l.getD 0 0) (l.getD 1 0) (l.getD 2 0) (by omega) (by omega) (hbd 0).1 (hbd 0).2 (hbd 1).1 (hbd 1).2 (hbd 2).1 (hbd 2).2 w' a b c
  have HP := Lib.hid (hp w2 (hget 0 (by omega)) (hget 1 (by omega)) (hget 2 (by omega)))
  have HB2 := Lib.hid hb2
  clear hp hbd hget hcells hb2 hg2 hheap htake hsize HO1 HG1 HB1 hb
  go_wp2_with (go_at_call 36; go_enter Try.func36, Try.ntmps36; go_wp2_with fail; refine (HP.out).mono ?_; rintro e w' ⟨rfl, rfl⟩)
  go_ret
  exact ⟨rfl, HB2.out⟩
end Go.Proofs.YtacmdmbdfkjhmaaR.Prin
