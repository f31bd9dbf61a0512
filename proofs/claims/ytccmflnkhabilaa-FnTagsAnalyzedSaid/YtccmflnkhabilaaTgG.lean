/- impl.AnalyzeTag: the walk. -/
import Derived.Test.YtccmflnkhabilaaTgF
import Derived.Test.YtccmflnkhabilaaDirC
import Derived.Lib.ConvBytes
namespace Go.Proofs.Ytccmflnkhabilaa.Tg
open Go.RowKit Go.Proofs.Ytccmflnkhabilaa.Em Go.Proofs.Ytccmflnkhabilaa.Dir
set_option linter.unusedVariables false
set_option linter.unusedSimpArgs false
/-- A text's bytes. -/
def byt (s : ByteArray) : List Int := s.data.toList.map fun b => (b.toNat : Int)
theorem byt_len (s : ByteArray) : (byt s).length = s.size := by unfold byt; simp
theorem byt_at (s : ByteArray) (i : Nat) (h : i < s.size) : (byt s).getD i 0 = ((s.data.toList.getD i 0).toNat : Int) := by
  unfold byt
  rw [List.getD_eq_getElem?_getD, List.getD_eq_getElem?_getD, List.getElem?_map, List.getElem?_eq_getElem (by simpa using h)]
  rfl
theorem byt_str (s : ByteArray) : strOfNums (byt s) = s := by
  unfold strOfNums byt
  rw [List.map_map]
  have : (List.map ((fun n : Int => UInt8.ofNat n.toNat) ∘ fun b : UInt8 => (b.toNat : Int)) s.data.toList) = s.data.toList := by
    conv => rhs; rw [← List.map_id s.data.toList]
    exact List.map_congr_left fun b _ => by simp
  rw [this]
theorem cv_any (s : ByteArray) (w : World) : (convert 9 22 (.string s)).run Try.prog w = .ok (.slice (some ⟨w.heap.size, 0, none⟩) s.size (grownCap w s.size 0 5)) (Lib.bytesWorld w 5 s) :=
  Lib.run_convert_string_bytes w 9 22 5 s Try.underlying9 Try.underlying22 Try.underlying5
theorem bw_below (w : World) (s : ByteArray) : Below w.heap.size w (Lib.bytesWorld w 5 s) :=
  ⟨rfl, rfl, rfl, by rw [Lib.bytesWorld_size]; omega, fun k hk => Lib.bytesWorld_at_old w 5 s k hk⟩
theorem bw_lies (w : World) (s : ByteArray) : Lies (Lib.bytesWorld w 5 s) (some ⟨w.heap.size, 0, none⟩) s.size (byt s) :=
  ⟨byt_len s, fun _ => ⟨_, _, rfl, by rw [Lib.bytesWorld_size]; omega, fun i hi => by rw [Nat.zero_add, Lib.bytesWorld_cell w 5 s i hi, byt_at s i hi]⟩⟩
/-- What holds in a round. -/
structure R5 (s1 s2 : ByteArray) (wr : World) (Done : World → Prop) (L : Nat → Bool) (vs : Nat → Value) (w : World) : Prop where
  bel : L 11 = false → Below wr.heap.size wr w
  r5 : L 11 = false → L 5 = true → ∃ b c, vs 5 = .slice (some ⟨b, 0, none⟩) s1.size c ∧ Lies w (some ⟨b, 0, none⟩) s1.size (byt s1)
  r10 : L 11 = false → L 10 = true → ∃ b c, vs 10 = .slice (some ⟨b, 0, none⟩) s2.size c ∧ Lies w (some ⟨b, 0, none⟩) s2.size (byt s2)
  done : L 11 = true → Done w
theorem R5.pure {s1 s2 : ByteArray} {wr : World} {Done : World → Prop} {L : Nat → Bool} {vs : Nat → Value} {w : World} (h : R5 s1 s2 wr Done L vs w) (i : Nat) (v : Value) (h5 : i ≠ 5) (h10 : i ≠ 10) (h11 : i ≠ 11) : R5 s1 s2 wr Done (fun j => j == i || L j) (Sp.upd vs i v) w := by
  refine ⟨?_, ?_, ?_, ?_⟩
  · rw [beq_no h11]; exact h.bel
  · rw [beq_no h11, beq_no h5, upd_off (Ne.symm h5)]; exact h.r5
  · rw [beq_no h11, beq_no h10, upd_off (Ne.symm h10)]; exact h.r10
  · rw [beq_no h11]; exact h.done
theorem R5.one {s1 s2 : ByteArray} {wr : World} {Done : World → Prop} {L : Nat → Bool} {vs : Nat → Value} {w : World} (h : R5 s1 s2 wr Done L vs w) (h11 : L 11 = false) :
    R5 s1 s2 wr Done (fun j => j == 5 || L j) (Sp.upd vs 5 (.slice (some ⟨w.heap.size, 0, none⟩) s1.size (grownCap w s1.size 0 5))) (Lib.bytesWorld w 5 s1) := by
  have hb := bw_below w s1
  refine ⟨fun _ => (h.bel h11).trans (hb.mono (h.bel h11).size), fun _ _ => ⟨w.heap.size, _, upd_on, bw_lies w s1⟩, fun _ h1 => ?_, fun h1 => ?_⟩
  · rw [beq_no (by decide)] at h1
    obtain ⟨b, c, e, hl⟩ := h.r10 h11 h1
    exact ⟨b, c, by rw [upd_off (by decide)]; exact e, hl.below hb⟩
  · rw [beq_no (by decide), h11] at h1; cases h1
theorem R5.two {s1 s2 : ByteArray} {wr : World} {Done : World → Prop} {L : Nat → Bool} {vs : Nat → Value} {w : World} (h : R5 s1 s2 wr Done L vs w) (h11 : L 11 = false) :
    R5 s1 s2 wr Done (fun j => j == 10 || L j) (Sp.upd vs 10 (.slice (some ⟨w.heap.size, 0, none⟩) s2.size (grownCap w s2.size 0 5))) (Lib.bytesWorld w 5 s2) := by
  have hb := bw_below w s2
  refine ⟨fun _ => (h.bel h11).trans (hb.mono (h.bel h11).size), fun _ h1 => ?_, fun _ _ => ⟨w.heap.size, _, upd_on, bw_lies w s2⟩, fun h1 => ?_⟩
  · rw [beq_no (by decide)] at h1
    obtain ⟨b, c, e, hl⟩ := h.r5 h11 h1
    exact ⟨b, c, by rw [upd_off (by decide)]; exact e, hl.below hb⟩
  · rw [beq_no (by decide), h11] at h1; cases h1
theorem R5.call {s1 s2 : ByteArray} {wr : World} {Done : World → Prop} {L : Nat → Bool} {vs : Nat → Value} {w2 : World} {v : Value} (hd : Done w2) : R5 s1 s2 wr Done (fun j => j == 11 || L j) (Sp.upd vs 11 v) w2 :=
  ⟨(fun h => by simp at h), (fun h => by simp at h), (fun h => by simp at h), fun _ => hd⟩
def S5 (p hb ho n hc pb po pc k : Nat) (s1 s2 : ByteArray) : Nat → Value → World → Prop
  | 0, v, _ => v = .pointer (some ⟨p, 0, none⟩)
  | 1, v, _ => v = .slice (some ⟨hb, ho, none⟩) n hc
  | 2, v, _ => v = .int .i64 (k : Int)
  | 3, v, _ => v = .pointer (some ⟨hb, ho + k, none⟩)
  | 4, v, _ => v = .string s1
  | 5, v, w => ∃ b c, v = .slice (some ⟨b, 0, none⟩) s1.size c
  | 6, v, _ => v = .slice (some ⟨pb, po, none⟩) n pc
  | 7, v, _ => v = .int .i64 (k : Int)
  | 8, v, _ => v = .pointer (some ⟨pb, po + k, none⟩)
  | 9, v, _ => v = .string s2
  | 10, v, w => ∃ b c, v = .slice (some ⟨b, 0, none⟩) s2.size c
  | _, _, _ => True
theorem s5_mono {p hb ho n hc pb po pc k : Nat} {s1 s2 : ByteArray} : ∀ (i : Nat) (v : Value) (w w' : World), True → S5 p hb ho n hc pb po pc k s1 s2 i v w → S5 p hb ho n hc pb po pc k s1 s2 i v w' := by
  intro i v w w' _ h
  unfold S5 at *
  split at h <;> simp_all
theorem info5y : (Try.prog.info? 5).map (fun i => (i.zero, i.size, i.bytes)) = some (some (.int .u8 0), 1, 1) := by kernel_rfl
theorem nums_one (xs : List Int) : ∀ u ∈ nums xs, u.oneCell' = true := by
  intro u hu
  unfold nums at hu
  rw [List.mem_map] at hu
  obtain ⟨x, _, rfl⟩ := hu
  rfl
theorem nums_len (xs : List Int) : (nums xs).length = xs.length := by unfold nums; simp
theorem addr_add (b o j : Nat) : (⟨b, o, none⟩ : Addr).add j = ⟨b, o + j, none⟩ := by
  unfold Addr.add
  split
  · rename_i h; subst h; rfl
  · rfl
theorem Lies.news {w : World} {b o n : Nat} {xs : List Int} (h : Lies w (some ⟨b, o, none⟩) n xs) : ∀ j u, (nums xs)[j]? = some u → w.cell? ((⟨b, o, none⟩ : Addr).add j) = some u := by
  intro j u hj
  have hjl : j < n := by
    rw [← h.1, ← nums_len]
    exact (List.getElem?_eq_some_iff.1 hj).1
  obtain ⟨b', o', e, _, hc⟩ := h.2 (by omega)
  simp only [Option.some.injEq, Addr.mk.injEq, and_true] at e
  obtain ⟨rfl, rfl⟩ := e
  rw [addr_add, hc j hjl, ← hj, nums_at _ _ (by rw [h.1]; exact hjl)]
/-- The row that is made of a text lies so. -/
theorem lies_owned {w : World} {B g n cap : Nat} {xs : List Int} (h : w.ownsRow B 5 1 (.slice (some ⟨g, 0, none⟩) n cap) n (nums xs)) : Lies w (some ⟨g, 0, none⟩) n xs ∧ n ≤ cap ∧ B ≤ g := by
  obtain ⟨h1, h2 | ⟨g', cap', cur, hv, hB, hg, hn, hm, hs, ht⟩⟩ := h
  · cases h2.1
  simp only [Value.slice.injEq, Option.some.injEq, Addr.mk.injEq, and_true, true_and] at hv
  obtain ⟨rfl, rfl⟩ := hv
  rw [nums_len, Nat.mul_one] at h1
  refine ⟨⟨h1, fun h0 => ⟨g, 0, rfl, lt_of_get hg, fun i hi => ?_⟩⟩, hn, hB⟩
  rw [Nat.zero_add, ← nums_at xs i (by omega), ← ht, List.getElem?_take_of_lt (by omega)]
  unfold World.cell?
  rw [hg]
  simp
/-- A text of bytes does not lie among other numbers. -/
theorem Lies.still {m n : Nat} {w w' : World} {A : Option Addr} {xs : List Int} (hl : Lies w A n xs) (hm : w.heap[m]? = some (Obj.cells #[Value.int IntKind.i64 0, Value.int IntKind.i64 0, Value.int IntKind.i64 0, Value.int IntKind.i64 0, Value.int IntKind.i64 0, Value.int IntKind.i64 0, Value.int IntKind.i64 0, Value.int IntKind.i64 0, Value.int IntKind.i64 0] 27)) (h : Cells m w w') : Lies w' A n xs := by
  refine ⟨hl.1, fun h0 => ?_⟩
  obtain ⟨b, o, e, h1, h2⟩ := hl.2 h0
  have hb : b ≠ m := by
    rintro rfl
    have := h2 0 h0
    unfold World.cell? at this
    rw [hm] at this
    simp only [Nat.add_zero, Option.isSome_none, Bool.false_eq_true, if_false] at this
    have hc : ∀ (i : Nat) (v : Value), (#[Value.int IntKind.i64 0, Value.int IntKind.i64 0, Value.int IntKind.i64 0, Value.int IntKind.i64 0, Value.int IntKind.i64 0, Value.int IntKind.i64 0, Value.int IntKind.i64 0, Value.int IntKind.i64 0, Value.int IntKind.i64 0] : Array Value)[i]? = some v → v = Value.int .i64 0 := by
      intro i v hv
      have hi : i < 9 := (Array.getElem?_eq_some_iff.1 hv).1
      have : i = 0 ∨ i = 1 ∨ i = 2 ∨ i = 3 ∨ i = 4 ∨ i = 5 ∨ i = 6 ∨ i = 7 ∨ i = 8 := by omega
      rcases this with rfl | rfl | rfl | rfl | rfl | rfl | rfl | rfl | rfl <;> simpa using hv.symm
    have := hc _ _ this
    cases this
  exact ⟨b, o, e, by rw [h.size]; exact h1, fun i hi => by rw [World.cell?_of_block (w := w) (a := ⟨b, o + i, none⟩) (h.block b hb)]; exact h2 i hi⟩
/-- The strings lie so. -/
def Strs (w : World) (A : Option Addr) (n : Nat) (S : Nat → ByteArray) : Prop := n = 0 ∨ ∃ b o, A = some ⟨b, o, none⟩ ∧ b < w.heap.size ∧ ∀ i, i < n → w.cell? ⟨b, o + i, none⟩ = some (.string (S i))
/-- The first so many. -/
def firsts (S : Nat → ByteArray) (k : Nat) : List (List Int) := (List.range k).map fun i => byt (S i)
theorem firsts_len (S : Nat → ByteArray) (k : Nat) : (firsts S k).length = k := by unfold firsts; simp
theorem firsts_at (S : Nat → ByteArray) (k i : Nat) (h : i < k) : (firsts S k).getD i [] = byt (S i) := by
  unfold firsts
  rw [List.getD_eq_getElem?_getD, List.getElem?_map, List.getElem?_range h]
  rfl
theorem firsts_next (S : Nat → ByteArray) (k : Nat) : firsts S (k + 1) = firsts S k ++ [byt (S k)] := by
  unfold firsts
  rw [List.range_succ, List.map_append]
  rfl
/-- What is told of a tag. -/
def Given (n : Nat) (H P : Nat → ByteArray) (ts : List Int) (W : World) (e : Ending) (w' : World) : Prop :=
  ∃ A c A' c' xs ys, e = .returned (.tuple #[.slice A xs.length c, .slice A' ys.length c', flt 0]) ∧ Lies w' A xs.length xs ∧ Lies w' A' ys.length ys ∧ Below W.heap.size W w' ∧
    ((∃ k, k < n ∧ (∀ j, j < k → fits ts (byt (P j)) = false) ∧ fits ts (byt (P k)) = true ∧ xs = byt (H k) ∧ ys = ts.drop (P k).size) ∨ ((∀ j, j < n → fits ts (byt (P j)) = false) ∧ xs = [] ∧ ys = ts))
set_option maxHeartbeats 8000000 in
set_option maxRecDepth 100000 in
theorem impl_tag (tb to tc n hc pc : Nat) (AH AP : Option Addr) (H P : Nat → ByteArray) (ts : List Int) (W : World) (hn : n ≤ 8) (ht0 : 0 < ts.length) (ht : ts.length ≤ 2147483647) (htl : Lies W (some ⟨tb, to, none⟩) ts.length ts) (hH : Strs W AH n H) (hP : Strs W AP n P)
    (hsH : ∀ i, i < n → (H i).size ≤ 2147483647) (hsP : ∀ i, i < n → (P i).size ≤ 2147483647) (hne : ∀ i j, j < i → i < n → same (H i) (H j) = false) :
    Calls Try.prog 8 #[.slice (some ⟨tb, to, none⟩) ts.length tc, .slice AH n hc, .slice AP n pc] W (Given n H P ts W) := by
  have HTL := Lib.hid htl
  have HH := Lib.hid hH
  have HPP := Lib.hid hP
  have HSH := Lib.hid hsH
  have HSP := Lib.hid hsP
  have HNE := Lib.hid hne
  clear htl hH hP hsH hsP hne
  obtain ⟨t, HT⟩ : ∃ n : Nat, Hid (ts.length = n) := ⟨_, rfl⟩
  rw [HT.out] at HTL ht0 ht ⊢
  go_enter Try.func8, Try.ntmps8
  try simp only [List.append]
  go_wp2_with fail
  obtain ⟨w0, hw0⟩ : ∃ w0 : World, w0 = (W.alloc (Obj.cells #[Value.int IntKind.i64 0, Value.int IntKind.i64 0, Value.int IntKind.i64 0, Value.int IntKind.i64 0, Value.int IntKind.i64 0, Value.int IntKind.i64 0, Value.int IntKind.i64 0, Value.int IntKind.i64 0, Value.int IntKind.i64 0] 27)).alloc (Obj.cells #[Value.slice none 0 0] 22) := ⟨_, rfl⟩
  rw [← hw0]
  have hb0 : Below W.heap.size W w0 := by rw [hw0]; exact ((Below.refl _ _).alloc (Nat.le_refl _) _).alloc (by simp) _
  have hs0 : w0.heap.size = W.heap.size + 2 := by rw [hw0]; simp
  have fb0 : w0.heap[W.heap.size]? = some (Obj.cells #[Value.int IntKind.i64 0, Value.int IntKind.i64 0, Value.int IntKind.i64 0, Value.int IntKind.i64 0, Value.int IntKind.i64 0, Value.int IntKind.i64 0, Value.int IntKind.i64 0, Value.int IntKind.i64 0, Value.int IntKind.i64 0] 27) := by
    rw [hw0]
    show ((W.heap.push _).push _)[W.heap.size]? = _
    rw [Array.getElem?_push]
    simp
  have HB0 := Lib.hid hb0
  have HF0 := Lib.hid fb0
  clear hb0 fb0 hw0
  refine (emitter_any false (W.heap.size + 1) w0).mono ?_
  rintro e w1 ⟨p, rfl, hp1, hp2, hth, q0, q13, q20, q36, q37, hb1⟩
  have hB1 : Below W.heap.size W w1 := HB0.out.trans (hb1.mono (by omega))
  have fb1 : w1.heap[W.heap.size]? = some (Obj.cells #[Value.int IntKind.i64 0, Value.int IntKind.i64 0, Value.int IntKind.i64 0, Value.int IntKind.i64 0, Value.int IntKind.i64 0, Value.int IntKind.i64 0, Value.int IntKind.i64 0, Value.int IntKind.i64 0, Value.int IntKind.i64 0] 27) := by rw [hb1.block W.heap.size (by omega)]; exact HF0.out
  have f20 := (hth 20 (by omega)).2
  have f36 := (hth 36 (by omega)).2
  have f37 := (hth 37 (by omega)).2
  rw [Nat.zero_add] at f20 f36 f37
  obtain ⟨B, HBB⟩ : ∃ B : Nat, Hid (w1.heap.size = B) := ⟨_, rfl⟩
  have hds : Dirs B p (firsts H 0) (firsts P 0) (.slice none 0 0) [] w1 := Dirs.start q20 f20 (by rw [← HBB.out]; exact hp2) (by rw [HBB.out]; exact Nat.le_refl _)
  have hWB : W.heap.size + 2 ≤ B := by rw [← HBB.out]; have := hb1.size; omega
  have hpW : W.heap.size + 2 ≤ p := by omega
  have hpB : p < B := by rw [← HBB.out]; exact hp2
  have HDS := Lib.hid hds
  have HB1 := Lib.hid hB1
  have HF1 := Lib.hid fb1
  have HQ36 := Lib.hid q36
  have HQ37 := Lib.hid q37
  have HZ36 := Lib.hid f36
  have HZ37 := Lib.hid f37
  clear hds hB1 fb1 q36 q37 f36 f37 f20 q0 q13 q20 hth hb1 hs0 HB0 HF0 hp1 hp2
  go_wp2_with fail
  go_loopw [10] (fun i wr => ∃ k : Nat, k ≤ n ∧ i = .int .i64 k ∧ (∃ V X, Dirs B p (firsts H k) (firsts P k) V X wr) ∧ Grew B p w1 wr) (fun i _ => n - (intOf i).toNat)
  case atStart => exact ⟨0, Nat.zero_le _, rfl, ⟨_, _, HDS.out⟩, ⟨rfl, rfl, rfl, Nat.le_refl _, fun _ _ _ => rfl, fun _ _ => rfl, fun _ => rfl⟩⟩
  obtain ⟨k, hk, rfl, ⟨V, X, hD⟩, hG⟩ := hrel
  have hBr : B ≤ wr.heap.size := hD.le
  have HDR := Lib.hid hD
  have HGR := Lib.hid hG
  clear hD hG
  by_cases hkn : k < n
  · have h1k : (k : Int) < (n : Int) := by omega
    have h2k : (0 : Int) ≤ (k : Int) := by omega
    rcases HH.out with h | ⟨hb, ho, rfl, hlt, hcell⟩
    · omega
    rcases HPP.out with h | ⟨pb, po, rfl, plt, pcell⟩
    · omega
    have ch : wr.cell? ⟨hb, ho + k, none⟩ = some (.string (H k)) := by
      rw [World.cell?_of_block (w := w1) (a := ⟨hb, ho + k, none⟩) (HGR.out.block hb (by omega) (by omega)), HB1.out.cell (p := ⟨hb, ho + k, none⟩) hlt]
      exact hcell k hkn
    have cp : wr.cell? ⟨pb, po + k, none⟩ = some (.string (P k)) := by
      rw [World.cell?_of_block (w := w1) (a := ⟨pb, po + k, none⟩) (HGR.out.block pb (by omega) (by omega)), HB1.out.cell (p := ⟨pb, po + k, none⟩) plt]
      exact pcell k hkn
    have hbr : hb < wr.heap.size := by omega
    have pbr : pb < wr.heap.size := by omega
    have hs1 := HSH.out k hkn
    have hs2 := HSP.out k hkn
    have hne : ∀ i, i < (firsts H k).length → same (strOfNums (byt (H k))) (strOfNums ((firsts H k).getD i [])) = false := by
      intro i hi
      rw [firsts_len] at hi
      rw [firsts_at _ _ _ hi, byt_str, byt_str]
      exact HNE.out k i hi hkn
    have hk8 : (firsts H k).length ≤ 8 := by rw [firsts_len]; omega
    have HNX : Hid (firsts H (k + 1) = firsts H k ++ [byt (H k)] ∧ firsts P (k + 1) = firsts P k ++ [byt (P k)]) := ⟨firsts_next H k, firsts_next P k⟩
    obtain ⟨s1, HS1⟩ : ∃ s, Hid (H k = s) := ⟨_, rfl⟩
    obtain ⟨s2, HS2⟩ : ∃ s, Hid (P k = s) := ⟨_, rfl⟩
    rw [HS1.out] at ch hs1 hne HNX
    rw [HS2.out] at cp hs2 HNX
    have CH := Lib.hid ch
    have CP := Lib.hid cp
    have HNE := Lib.hid hne
    clear ch cp hne hcell pcell
    obtain ⟨hs, HHS⟩ : ∃ l, Hid (firsts H k = l) := ⟨_, rfl⟩
    obtain ⟨ps, HPS⟩ : ∃ l, Hid (firsts P k = l) := ⟨_, rfl⟩
    rw [HHS.out] at HDR HNE HNX hk8
    rw [HPS.out] at HDR HNX
    go_wp2_with fail
    refine Sp.region_specs_v (by kernel_rfl) _ (by kernel_rfl) (by kernel_rfl) (by kernel_rfl) rfl (by kernel_rfl) (S5 p hb ho n hc pb po pc k s1 s2) (R5 s1 s2 wr (Added B p hs ps (byt s1) (byt s2) wr)) (fun _ _ => True) ⟨(fun _ => (Below.refl _ _).drew), (fun _ h => by cases h), (fun _ h => by cases h), (fun h => by cases h)⟩ s5_mono ?_ ?_
    intro i hi L vs a w1 hcl hL F hV hI
    have hcases : i = 0 ∨ i = 1 ∨ i = 2 ∨ i = 3 ∨ i = 4 ∨ i = 5 ∨ i = 6 ∨ i = 7 ∨ i = 8 ∨ i = 9 ∨ i = 10 ∨ i = 11 := by have hi' : i < 12 := hi; omega
    rcases hcases with rfl | rfl | rfl | rfl | rfl | rfl | rfl | rfl | rfl | rfl | rfl | rfl
    · have d9 : a.tmps.getD 9 undef = .pointer (some ⟨p, 0, none⟩) := F.out 9 (by kernel_rfl)
      exact Sp.sp_value rfl (Sp.wanted_none rfl) (v := .pointer (some ⟨p, 0, none⟩)) (w' := w1) (by simp [execOp, Act.eval, d9, Sp.gd d9, go_sem]) trivial trivial ⟨rfl, hI.pure 0 _ (by decide) (by decide) (by decide)⟩
    · have d1 : a.tmps.getD 1 undef = .slice (some ⟨hb, ho, none⟩) n hc := F.out 1 (by kernel_rfl)
      exact Sp.sp_value rfl (Sp.wanted_none rfl) (v := .slice (some ⟨hb, ho, none⟩) n hc) (w' := w1) (by simp [execOp, Act.eval, d1, Sp.gd d1, go_sem]) trivial trivial ⟨rfl, hI.pure 1 _ (by decide) (by decide) (by decide)⟩
    · have d10 : a.tmps.getD 10 undef = .int .i64 (k : Int) := F.out 10 (by kernel_rfl)
      exact Sp.sp_value rfl (Sp.wanted_none rfl) (v := .int .i64 (k : Int)) (w' := w1) (by simp [execOp, Act.eval, d10, Sp.gd d10, go_sem]) trivial trivial ⟨rfl, hI.pure 2 _ (by decide) (by decide) (by decide)⟩
    · have d27 : a.tmps.getD 27 undef = .slice (some ⟨hb, ho, none⟩) n hc := F.val 1 27 (by kernel_rfl) (by rfl)
      have d28 : a.tmps.getD 28 undef = .int .i64 (k : Int) := F.val 2 28 (by kernel_rfl) (by rfl)
      exact Sp.sp_value rfl (Sp.wanted_none rfl) (v := .pointer (some ⟨hb, ho + k, none⟩)) (w' := w1) (by simp [execOp, Act.eval, d27, Sp.gd d27, d28, Sp.gd d28, h1k, h2k, go_sem]) trivial trivial ⟨rfl, hI.pure 3 _ (by decide) (by decide) (by decide)⟩
    · have d29 : a.tmps.getD 29 undef = .pointer (some ⟨hb, ho + k, none⟩) := F.val 3 29 (by kernel_rfl) (by rfl)
      have hcc : w1.cell? ⟨hb, ho + k, none⟩ = some (.string s1) := by rw [(hI.bel (by cases e : L 11 with | false => rfl | true => (have := hcl 11 (by decide) e 4 (by kernel_rfl); rw [hL] at this; cases this))).cell (p := ⟨hb, ho + k, none⟩) hbr]; exact CH.out
      exact Sp.sp_value rfl (Sp.wanted_none rfl) (v := .string s1) (w' := w1) (by simp [execOp, Act.eval, d29, Sp.gd d29, hcc, go_sem]) trivial trivial ⟨rfl, hI.pure 4 _ (by decide) (by decide) (by decide)⟩
    · have d30 : a.tmps.getD 30 undef = .string s1 := F.val 4 30 (by kernel_rfl) (by rfl)
      exact Sp.sp_value rfl (Sp.wanted_none rfl) (v := .slice (some ⟨w1.heap.size, 0, none⟩) s1.size (grownCap w1 s1.size 0 5)) (w' := Lib.bytesWorld w1 5 s1) (by simp [execOp, Act.eval, d30, Sp.gd d30, cv_any s1]) trivial trivial ⟨⟨_, _, rfl⟩, hI.one (by cases e : L 11 with | false => rfl | true => (have := hcl 11 (by decide) e 5 (by kernel_rfl); rw [hL] at this; cases this))⟩
    · have d2 : a.tmps.getD 2 undef = .slice (some ⟨pb, po, none⟩) n pc := F.out 2 (by kernel_rfl)
      exact Sp.sp_value rfl (Sp.wanted_none rfl) (v := .slice (some ⟨pb, po, none⟩) n pc) (w' := w1) (by simp [execOp, Act.eval, d2, Sp.gd d2, go_sem]) trivial trivial ⟨rfl, hI.pure 6 _ (by decide) (by decide) (by decide)⟩
    · have d10 : a.tmps.getD 10 undef = .int .i64 (k : Int) := F.out 10 (by kernel_rfl)
      exact Sp.sp_value rfl (Sp.wanted_none rfl) (v := .int .i64 (k : Int)) (w' := w1) (by simp [execOp, Act.eval, d10, Sp.gd d10, go_sem]) trivial trivial ⟨rfl, hI.pure 7 _ (by decide) (by decide) (by decide)⟩
    · have d32 : a.tmps.getD 32 undef = .slice (some ⟨pb, po, none⟩) n pc := F.val 6 32 (by kernel_rfl) (by rfl)
      have d33 : a.tmps.getD 33 undef = .int .i64 (k : Int) := F.val 7 33 (by kernel_rfl) (by rfl)
      exact Sp.sp_value rfl (Sp.wanted_none rfl) (v := .pointer (some ⟨pb, po + k, none⟩)) (w' := w1) (by simp [execOp, Act.eval, d32, Sp.gd d32, d33, Sp.gd d33, h1k, h2k, go_sem]) trivial trivial ⟨rfl, hI.pure 8 _ (by decide) (by decide) (by decide)⟩
    · have d34 : a.tmps.getD 34 undef = .pointer (some ⟨pb, po + k, none⟩) := F.val 8 34 (by kernel_rfl) (by rfl)
      have hcc : w1.cell? ⟨pb, po + k, none⟩ = some (.string s2) := by rw [(hI.bel (by cases e : L 11 with | false => rfl | true => (have := hcl 11 (by decide) e 9 (by kernel_rfl); rw [hL] at this; cases this))).cell (p := ⟨pb, po + k, none⟩) pbr]; exact CP.out
      exact Sp.sp_value rfl (Sp.wanted_none rfl) (v := .string s2) (w' := w1) (by simp [execOp, Act.eval, d34, Sp.gd d34, hcc, go_sem]) trivial trivial ⟨rfl, hI.pure 9 _ (by decide) (by decide) (by decide)⟩
    · have d35 : a.tmps.getD 35 undef = .string s2 := F.val 9 35 (by kernel_rfl) (by rfl)
      exact Sp.sp_value rfl (Sp.wanted_none rfl) (v := .slice (some ⟨w1.heap.size, 0, none⟩) s2.size (grownCap w1 s2.size 0 5)) (w' := Lib.bytesWorld w1 5 s2) (by simp [execOp, Act.eval, d35, Sp.gd d35, cv_any s2]) trivial trivial ⟨⟨_, _, rfl⟩, hI.two (by cases e : L 11 with | false => rfl | true => (have := hcl 11 (by decide) e 10 (by kernel_rfl); rw [hL] at this; cases this))⟩
    · have d26 : a.tmps.getD 26 undef = .pointer (some ⟨p, 0, none⟩) := F.val 0 26 (by kernel_rfl) (by rfl)
      have d31 := F.val 5 31 (by kernel_rfl) (by rfl)
      have d36 := F.val 10 36 (by kernel_rfl) (by rfl)
      obtain ⟨l5, -, d5⟩ := hV 5 (by kernel_rfl)
      obtain ⟨l10, -, d10⟩ := hV 10 (by kernel_rfl)
      have d31 := d5 31 rfl
      have d36 := d10 36 rfl
      obtain ⟨b5, u5, y5, z5⟩ := hI.r5 hL l5
      obtain ⟨b10, u10, y10, z10⟩ := hI.r10 hL l10
      rw [y5] at d31
      rw [y10] at d36
      have hb1 := hI.bel hL
      have hzz := zzadd_any B p u5 u10 (some ⟨b5, 0, none⟩) (some ⟨b10, 0, none⟩) (byt s1) (byt s2) hs ps V X w1 (by rw [byt_len]; exact z5) (by rw [byt_len]; exact z10) (by rw [byt_len]; omega) (by rw [byt_len]; omega) (HDR.out.below hb1) hk8 HNE.out
      rw [byt_len, byt_len] at hzz
      refine Sp.sp_call Try.func13 (by decide) (by rfl) #[.pointer (some ⟨p, 0, none⟩), .slice (some ⟨b5, 0, none⟩) s1.size u5, .slice (some ⟨b10, 0, none⟩) s2.size u10] rfl (Sp.wanted_none rfl) rfl (by simp [Act.eval, d26, Sp.gd d26, d31, Sp.gd d31, d36, Sp.gd d36]) (hzz.mono ?_)
      rintro e w2 ⟨rfl, hadd⟩
      exact ⟨_, rfl, trivial, trivial, trivial, R5.call ⟨hadd.1, (Grew.below (hb1.mono hBr) hpB).trans hadd.2⟩⟩
    · intro val L w2 hall hI hS
      obtain ⟨⟨V2, X2, hD2⟩, hG2⟩ := hI.done (hall 11 (by decide))
      rw [← HNX.out.1, ← HNX.out.2] at hD2
      have HD2 := Lib.hid hD2
      have HG2 := Lib.hid (HGR.out.trans hG2)
      simp only [Sp.setAll, List.setIfInBounds_toArray, List.set_cons_zero, List.set_cons_succ]
      clear hI hS hall hD2 hG2
      go_wp2_with fail
      go_roundw
      case rel => exact ⟨k + 1, by omega, by go_num, ⟨_, _, HD2.out⟩, HG2.out⟩
      case measure => simp [intOf]; omega
  obtain rfl : k = n := by omega
  clear hkn hk
  have h1k : ¬ (k : Int) < (k : Int) := by omega
  have hown : (wr.alloc (.cells #[] 5)).ownsRow wr.heap.size 5 1 (.slice (some ⟨wr.heap.size, 0, none⟩) 0 0) 0 [] := ⟨rfl, .inr ⟨_, 0, #[], rfl, Nat.le_refl _, alloc_new _ _, Nat.le_refl _, by unfold maxLen; omega, rfl, rfl⟩⟩
  have HOW := Lib.hid hown
  obtain ⟨i0, hi0, hz0, hz1, hz2⟩ := info_parts info5y
  have htb : tb < W.heap.size := by
    obtain ⟨b, o, e, h1, _⟩ := HTL.out.2 ht0
    simp only [Option.some.injEq, Addr.mk.injEq, and_true] at e
    omega
  have htl : Lies (wr.alloc (.cells #[] 5)) (some ⟨tb, to, none⟩) t ts := by
    refine ⟨HTL.out.1, fun _ => ⟨tb, to, rfl, by simp; omega, fun i hi => ?_⟩⟩
    obtain ⟨b, o, e, _, hc⟩ := HTL.out.2 ht0
    simp only [Option.some.injEq, Addr.mk.injEq, and_true] at e
    obtain ⟨rfl, rfl⟩ := e
    rw [World.cell?_alloc_lt _ _ _ (by simp; omega), World.cell?_of_block (w := w1) (a := ⟨tb, to + i, none⟩) (HGR.out.block tb (by omega) (by omega)), HB1.out.cell (p := ⟨tb, to + i, none⟩) htb]
    exact hc i hi
  have HNW := Lib.hid htl.news
  have HLN : Hid ((nums ts).length = t * 1) := Lib.hid (by rw [nums_len, HT.out, Nat.mul_one])
  clear hown htl
  have hsz : wr.heap.size ≤ (wr.alloc (Obj.cells #[] 5)).heap.size := by simp
  have h63 : 0 + t ≤ maxLen := by unfold maxLen; omega
  go_wp2_with ((at_builtin; refine wpList_append_lies _ rfl _ _ _ rfl wr.heap.size 5 i0 (.int .u8 0) 1 1 Try.underlying22 hi0 hz0 hz1 hz2 rfl (by omega) (.slice (some ⟨wr.heap.size, 0, none⟩) 0 0) 0 [] rfl HOW.out ⟨tb, to, none⟩ t tc (nums ts) rfl HLN.out HNW.out (nums_one ts) ht0 h63 (by omega) hsz (wr.heap.size + 1) (by simp) ?_; intro g cap w5 hown5 hgrow hat hlt))
  rw [Nat.zero_add, List.nil_append] at hown5
  obtain ⟨hl5, hcap, hg5⟩ := lies_owned hown5
  have hbel5 : Below wr.heap.size wr w5 := ((Below.refl _ _).alloc (Nat.le_refl _) _).trans ⟨hgrow.os, hgrow.tape, hgrow.output, hgrow.size, fun i hi => hgrow.block i (by simp; omega) (by simp [Value.ownBlock]; omega)⟩
  have hD5 := HDR.out.below hbel5
  have g36 : w5.cell? ⟨p, 36, none⟩ = some (.slice none 0 0) := by rw [hbel5.cell (p := ⟨p, 36, none⟩) (by simp; omega), HGR.out.cell 36 (by omega)]; exact HQ36.out
  have g37 : w5.cell? ⟨p, 37, none⟩ = some (.slice none 0 0) := by rw [hbel5.cell (p := ⟨p, 37, none⟩) (by simp; omega), HGR.out.cell 37 (by omega)]; exact HQ37.out
  have e36 : w5.frozen? ⟨p, 36, none⟩ = false := by rw [hbel5.frozen (p := ⟨p, 36, none⟩) (by simp; omega), HGR.out.frozen 36]; exact HZ36.out
  have e37 : w5.frozen? ⟨p, 37, none⟩ = false := by rw [hbel5.frozen (p := ⟨p, 37, none⟩) (by simp; omega), HGR.out.frozen 37]; exact HZ37.out
  have hzt := zztag_any B p g cap ts (firsts H k) (firsts P k) V X (.slice none 0 0) (.slice none 0 0) w5 hD5 (by rw [firsts_len]; omega) (by rw [HT.out]; omega) (by rw [HT.out]; omega) (by rw [HT.out]; exact hcap) (by rw [HT.out]; exact hl5) (by omega) g36 g37 e36 e37 (fun i => by
    by_cases h : i < k
    · rw [firsts_at _ _ _ h, byt_len]; exact HSP.out i h
    · rw [List.getD_eq_getElem?_getD, List.getElem?_eq_none (by rw [firsts_len]; omega)]; simp)
  have hfb5 : w5.heap[W.heap.size]? = some (Obj.cells #[Value.int IntKind.i64 0, Value.int IntKind.i64 0, Value.int IntKind.i64 0, Value.int IntKind.i64 0, Value.int IntKind.i64 0, Value.int IntKind.i64 0, Value.int IntKind.i64 0, Value.int IntKind.i64 0, Value.int IntKind.i64 0] 27) := by rw [hbel5.block _ (by omega), HGR.out.block _ (by omega) (by omega)]; exact HF1.out
  have hB5 : Below W.heap.size W w5 := HB1.out.trans ⟨hbel5.os.trans HGR.out.os, hbel5.tape.trans HGR.out.tape, hbel5.output.trans HGR.out.output, by have := HGR.out.size; have := hbel5.size; omega, fun i hi => (hbel5.block i (by omega)).trans (HGR.out.block i (by omega) (by omega))⟩
  rw [HT.out] at hzt
  have HZT := Lib.hid hzt
  have HF5 := Lib.hid hfb5
  have HB5 := Lib.hid hB5
  have HL5 := Lib.hid hl5
  clear hown5 hgrow hat hbel5 hD5 g36 g37 e36 e37 hzt hfb5 hB5 hl5 hsz h63 hi0 hz0 hz1 hz2 HOW HNW
  go_wp2_with fail
  refine HZT.out.mono ?_
  rintro e w6 ⟨rfl, hP⟩
  obtain ⟨x, y, hx, hy, hxy⟩ : ∃ x y, w6.cell? ⟨p, 36, none⟩ = some x ∧ w6.cell? ⟨p, 37, none⟩ = some y ∧ ∃ A c A' c' xs ys, x = .slice A xs.length c ∧ y = .slice A' ys.length c' ∧ Lies w6 A xs.length xs ∧ Lies w6 A' ys.length ys ∧
      ((∃ j, j < k ∧ (∀ i, i < j → fits ts (byt (P i)) = false) ∧ fits ts (byt (P j)) = true ∧ xs = byt (H j) ∧ ys = ts.drop (P j).size) ∨ ((∀ i, i < k → fits ts (byt (P i)) = false) ∧ xs = [] ∧ ys = ts)) := by
    rcases hP.2 with ⟨j, hj, hno, hf, ⟨A, c, ca, la⟩, A', c', ca', la'⟩ | ⟨hno, c1, c2⟩
    · rw [firsts_len] at hj
      have hno' : ∀ i, i < j → fits ts (byt (P i)) = false := fun i hi => by have := hno i hi; rw [firsts_at _ _ _ (by omega)] at this; exact this
      rw [firsts_at _ _ _ hj] at hf ca la ca' la'
      have e : ts.length - (byt (P j)).length = (ts.drop (byt (P j)).length).length := by rw [List.length_drop]
      rw [e] at ca' la'
      exact ⟨_, _, ca, ca', A, c, A', c', byt (H j), ts.drop (byt (P j)).length, rfl, rfl, la, la', .inl ⟨j, hj, hno', hf, rfl, by rw [byt_len]⟩⟩
    · refine ⟨_, _, c1, c2, none, 0, some ⟨g, 0, none⟩, cap, [], ts, rfl, by rw [HT.out], ⟨rfl, fun h => by simp at h⟩, ?_, .inr ⟨fun i hi => ?_, rfl, rfl⟩⟩
      · rw [HT.out]; exact hP.1.lies HL5.out (fun b o e => by simp only [Option.some.injEq, Addr.mk.injEq] at e; omega)
      · have := hno i (by rw [firsts_len]; exact hi)
        rw [firsts_at _ _ _ hi] at this
        exact this
  have hfb6 : w6.heap[W.heap.size]? = some (Obj.cells #[Value.int IntKind.i64 0, Value.int IntKind.i64 0, Value.int IntKind.i64 0, Value.int IntKind.i64 0, Value.int IntKind.i64 0, Value.int IntKind.i64 0, Value.int IntKind.i64 0, Value.int IntKind.i64 0, Value.int IntKind.i64 0] 27) := by rw [hP.1.block _ (by omega)]; exact HF5.out
  have hB6 : Below W.heap.size W w6 := HB5.out.trans ⟨hP.1.os, hP.1.tape, hP.1.output, by rw [hP.1.size]; exact Nat.le_refl _, fun i hi => hP.1.block i (by omega)⟩
  have HXY := Lib.hid hxy
  have HB6 := Lib.hid hB6
  have hpa := parts_any p x y w6 hx hy
  have HPA := Lib.hid hpa
  have HF6 := Lib.hid hfb6
  clear hP hB6 hpa hfb6 hx hy hxy
  go_wp2_with fail
  refine HPA.out.mono ?_
  rintro e w7 ⟨rfl, nd, rfl⟩
  have hf7 : (w6.drewN nd).heap[W.heap.size]? = some (Obj.cells #[Value.int IntKind.i64 0, Value.int IntKind.i64 0, Value.int IntKind.i64 0, Value.int IntKind.i64 0, Value.int IntKind.i64 0, Value.int IntKind.i64 0, Value.int IntKind.i64 0, Value.int IntKind.i64 0, Value.int IntKind.i64 0] 27) := HF6.out
  have c9 : ∀ i, i < 9 → (w6.drewN nd).cell? ⟨W.heap.size, i, none⟩ = some (.int .i64 0) ∧ (w6.drewN nd).frozen? ⟨W.heap.size, i, none⟩ = false := by
    intro i hi
    unfold World.cell? World.frozen?
    rw [hf7]
    have : i = 0 ∨ i = 1 ∨ i = 2 ∨ i = 3 ∨ i = 4 ∨ i = 5 ∨ i = 6 ∨ i = 7 ∨ i = 8 := by omega
    rcases this with rfl | rfl | rfl | rfl | rfl | rfl | rfl | rfl | rfl <;> simp
  obtain ⟨k0, g0⟩ := c9 0 (by omega)
  obtain ⟨k1, g1⟩ := c9 1 (by omega)
  obtain ⟨k2, g2⟩ := c9 2 (by omega)
  obtain ⟨k3, g3⟩ := c9 3 (by omega)
  obtain ⟨k4, g4⟩ := c9 4 (by omega)
  obtain ⟨k5, g5⟩ := c9 5 (by omega)
  obtain ⟨k6, g6⟩ := c9 6 (by omega)
  obtain ⟨k7, g7⟩ := c9 7 (by omega)
  obtain ⟨k8, g8⟩ := c9 8 (by omega)
  have HB7 : Hid (Below W.heap.size W (w6.drewN nd)) := ⟨HB6.out.os, HB6.out.tape, HB6.out.output, HB6.out.size, HB6.out.block⟩
  have HF7 := Lib.hid hf7
  clear hf7 c9
  obtain ⟨A, c, A', c', xs, ys, ex, ey, lx, ly, hxy⟩ := HXY.out
  have HX : Hid (x = .slice A xs.length c) := Lib.hid ex
  have HY : Hid (y = .slice A' ys.length c') := Lib.hid ey
  have LX : Hid (Lies (w6.drewN nd) A xs.length xs) := Lib.hid lx
  have LY : Hid (Lies (w6.drewN nd) A' ys.length ys) := Lib.hid ly
  have HXX := Lib.hid hxy
  clear ex ey lx ly hxy
  generalize w6.drewN nd = w7 at *
  go_wp2
  have hC : Cells W.heap.size w7 (((((((((w7.setCell ⟨W.heap.size, 0, none⟩ (.int .i64 0)).setCell ⟨W.heap.size, 1, none⟩ (.int .i64 0)).setCell ⟨W.heap.size, 2, none⟩ (.int .i64 0)).setCell ⟨W.heap.size, 3, none⟩ (.int .i64 0)).setCell ⟨W.heap.size, 4, none⟩ (.int .i64 0)).setCell ⟨W.heap.size, 5, none⟩ (.int .i64 0)).setCell ⟨W.heap.size, 6, none⟩ (.int .i64 0)).setCell ⟨W.heap.size, 7, none⟩ (.int .i64 0)).setCell ⟨W.heap.size, 8, none⟩ (.int .i64 0)) :=
    (((((((((Cells.refl _ _).set 0 _).set 1 _).set 2 _).set 3 _).set 4 _).set 5 _).set 6 _).set 7 _).set 8 _
  refine bodyPost_ret (v := .tuple #[x, y, flt 0]) (by simp [results, Try.results8, go_sem, flt, k0, k1, k2, k3, k4, k5, k6, k7, k8]) rfl ⟨A, c, A', c', xs, ys, by rw [← HX.out, ← HY.out], LX.out.still HF7.out hC, LY.out.still HF7.out hC, HB7.out.trans ⟨hC.os, hC.tape, hC.output, by rw [hC.size]; exact Nat.le_refl _, fun i hi => hC.block i (by omega)⟩, HXX.out⟩
end Go.Proofs.Ytccmflnkhabilaa.Tg
