/- QlC, QxG, QlD, QxJ, QxA: parts of the proof, one behind another. -/
import Derived.Laws.Cover4
import Derived.Deep.AppendLies
import Derived.OwnWalk
import Derived.Test.YtocbbekciphjgaaDoorMz10
import Derived.Test.YtocbbekciphjgaaDoorMz21
import Derived.Test.YtocbbekciphjgaaDoorMh1
/- QlC -/
/- Two lines as runes, and a row of them: what the walk of spec.Block needs. -/
namespace Go.Proofs.YtocbbekciphjgaaDoor.Bk2
open Go.RowKit Go.Proofs.YtocbbekciphjgaaDoor.Rdp Go.Proofs.YtocbbekciphjgaaDoor.Pa Go.Proofs.YtocbbekciphjgaaDoor.Sc Go.Proofs.YtocbbekciphjgaaDoor.Qd Go.Proofs.YtocbbekciphjgaaDoor.Bs Go.Proofs.YtocbbekciphjgaaDoor.Dq Go.Proofs.YtocbbekciphjgaaDoor.Ln
set_option linter.unusedVariables false
set_option linter.unusedSimpArgs false
theorem indent_any (e : Nat) (he : e ≤ 9) (g gc b1 c1 b2 c2 : Nat) (w : World) (h1 : w.cell? ⟨g, 0, none⟩ = some (.slice (some ⟨b1, 0, none⟩) 11 c1)) (h2 : w.cell? ⟨g, 1, none⟩ = some (.slice (some ⟨b2, 0, none⟩) 0 c2)) (hz : Zs w b1 ten) (hc0 : 11 ≤ c1) (hc1 : c1 ≤ 9223372036854775807) (hc2 : c2 ≤ 9223372036854775807) :
    Calls Tryd.prog 52 #[.slice (some ⟨g, 0, none⟩) 2 gc, .int .i64 (e : Nat), .int .i64 0] w fun r w' => r = .returned (.tuple #[.int .i64 ((if e = 0 then 10 else e : Nat) : Int), .bool true]) ∧ w' = w := by
  by_cases h0 : e = 0
  · subst h0
    exact indent_none g gc b1 c1 b2 c2 w h1 h2 hz hc0 hc1 hc2
  · rw [if_neg h0]
    exact indent_some g gc b1 c1 b2 c2 e (by omega) he w h1 h2 hz hc0 hc1 hc2
def sTen : ByteArray := ⟨#[32, 32, 32, 32, 32, 32, 32, 32, 32, 32, 97]⟩
theorem rs_ten : rsFrom sTen sTen.size 0 = ten := by kernel_rfl
theorem val_ten : sTen.size ≤ 65536 ∧ Lib.validD sTen.data.toList = true := ⟨by decide, by kernel_rfl⟩
theorem rs_nil : rsFrom ⟨#[]⟩ (ByteArray.mk #[]).size 0 = [] := by kernel_rfl
theorem val_nil : (ByteArray.mk #[]).size ≤ 65536 ∧ Lib.validD (ByteArray.mk #[]).data.toList = true := ⟨by decide, by kernel_rfl⟩
theorem runes_ten (w : World) (hT : Tabs w) : Calls Tryd.prog 42 #[.string sTen] w fun e w' => Below w.heap.size w w' ∧ ∃ b cp, e = .returned (.tuple #[.slice (some ⟨b, 0, none⟩) 11 cp, .bool true]) ∧ (11 ≤ cp ∧ cp ≤ 9223372036854775807) ∧ Zs w' b ten := by
  refine (runes_any sTen w (by decide) hT).mono ?_
  rintro e w' ⟨hb, ⟨hno, rfl⟩ | ⟨_, b, cp, rfl, hcp, hz⟩⟩
  · exact absurd val_ten hno
  · rw [rs_ten] at hcp hz ⊢
    exact ⟨hb, b, cp, rfl, hcp, hz⟩
theorem runes_nil (w : World) (hT : Tabs w) : Calls Tryd.prog 42 #[.string ⟨#[]⟩] w fun e w' => Below w.heap.size w w' ∧ ∃ b cp, e = .returned (.tuple #[.slice (some ⟨b, 0, none⟩) 0 cp, .bool true]) ∧ cp ≤ 9223372036854775807 := by
  refine (runes_any ⟨#[]⟩ w (by decide) hT).mono ?_
  rintro e w' ⟨hb, ⟨hno, rfl⟩ | ⟨_, b, cp, rfl, hcp, hz⟩⟩
  · exact absurd val_nil hno
  · rw [rs_nil] at hcp ⊢
    exact ⟨hb, b, cp, rfl, hcp.2⟩
theorem all_ten (b cp : Nat) (w : World) (hz : Zs w b ten) : Calls Tryd.prog 43 #[.slice (some ⟨b, 0, none⟩) 11 cp, .bool false] w fun e w' => e = .returned (.bool true) ∧ w' = w :=
  all_any ten b cp false w (by decide) (by decide) hz
theorem all_nil (b cp : Nat) (w : World) : Calls Tryd.prog 43 #[.slice (some ⟨b, 0, none⟩) 0 cp, .bool false] w fun e w' => e = .returned (.bool true) ∧ w' = w :=
  all_any [] b cp false w (by decide) (by decide) (fun j hj => by simp at hj)
/-- A row of rows. -/
def RowS (lo : Nat) (w : World) (v : Value) (l : List Value) : Prop := w.ownsRow lo 84 1 v l.length l
theorem info84 : (Tryd.prog.info? 84).map (fun i => (i.zero, i.size, i.bytes)) = some (some (.slice none 0 0), 1, 24) := by kernel_rfl
theorem und97 : Tryd.prog.underlying 97 = some (.slice 84) := by kernel_rfl
theorem wpList_row {ops : Array Oper} {rest : List Oper} {o : Oper} {a : Act} {w : World} {Q : Exit → Act → World → Prop} (hgd : o.guard = none) (s x : Operand)
    (ho : o.op = .call { callee := .builtin .append, args := #[s, x], argTypes := #[97, 97] }) (lo : Nat) (v : Value) (l : List Value) (y : Value) (hy : y.oneCell' = true) (hs : a.eval s = v) (hown : RowS lo w v l)
    (nb c : Nat) (hx : a.eval x = .slice (some ⟨nb, 0, none⟩) 1 c) (hn : w.cell? ⟨nb, 0, none⟩ = some y) (hsz : l.length ≤ 1000) (hlo : lo ≤ w.heap.size)
    (h : ∀ g cap w', RowS lo w' (.slice (some ⟨g, 0, none⟩) (l.length + 1) cap) (l ++ [y]) → w.grownBy w' v.ownBlock → (v.ownBlock = some g ∨ w.heap.size ≤ g) → wpList Tryd.prog ops Q rest (a.put o.dst (.slice (some ⟨g, 0, none⟩) (l.length + 1) cap)) w') : wpList Tryd.prog ops Q (o :: rest) a w := by
  refine wpList_plain hgd fun K hK => ?_
  obtain ⟨i0, hi, hz0, hz1, hz2⟩ := info_parts info84
  have hnews : ∀ (j : Nat) (u : Value), ([y] : List Value)[j]? = some u → w.cell? ((⟨nb, 0, none⟩ : Addr).add j) = some u := by
    intro j u hu
    cases j with
    | zero =>
      simp at hu
      subst hu
      exact hn
    | succ j => simp at hu
  obtain ⟨g, cap, w', hr, h2, h3, h4, h5⟩ := run_append_lies (P := Tryd.prog) (w := w) 97 o.type lo 84 i0 (.slice none 0 0) 1 24 und97 hi hz0 hz1 hz2 rfl (by omega) v l.length l hown ⟨nb, 0, none⟩ 1 c [y] rfl hnews (by intro u hu; rw [List.mem_singleton] at hu; rw [hu]; exact hy) (by omega) (by unfold maxLen; omega) (by omega) hlo w.heap.size rfl
  unfold Oper.wp execOp
  simp only [ho, resolve, invoke, builtin, Sem.run_bind, Sem.run_pure, Result.andThen_ok, List.map_toArray, List.map_cons, List.map_nil, hs, hx, hr]
  refine hK _ _ (h g cap w' ?_ h3 (h4.imp id (fun e => by omega)))
  unfold RowS
  rw [List.length_append]
  exact h2
theorem RowS.nil (lo : Nat) (w : World) : RowS lo w (.slice none 0 0) [] := World.ownsRow_nil w lo 84 1
theorem RowS.cell {lo : Nat} {w : World} {l : List Value} {g n cap : Nat} (h : RowS lo w (.slice (some ⟨g, 0, none⟩) n cap) l) (i : Nat) {u : Value} (hi : l[i]? = some u) : w.cell? ⟨g, i, none⟩ = some u := by
  have h1 := World.ownsRow.cells h (g := g) rfl
  have := h1 i u hi
  rw [Addr.add_lit, Nat.zero_add] at this
  exact this
/-- What ten spaces and a letter are, from a place on. -/
theorem bytes_ten (d : Nat) (h1 : 1 ≤ d) (h2 : d ≤ 10) : runesBytes ((ten.drop d).take (11 - d)) = strOfNums (us (Bs.sps (10 - d) ++ [97])) := by
  have : ∀ d, d ≤ 10 → 1 ≤ d → runesBytes ((ten.drop d).take (11 - d)) = strOfNums (us (Bs.sps (10 - d) ++ [97])) := by decide +kernel
  exact this d h2 h1
end Go.Proofs.YtocbbekciphjgaaDoor.Bk2
/- QxG -/
/- Line feeds in the reference (scFeeds): walked. -/
namespace Go.Proofs.YtocbbekciphjgaaDoor.Qd
open Go.RowKit Go.Proofs.YtocbbekciphjgaaDoor.Rdp Go.Proofs.YtocbbekciphjgaaDoor.Pa Go.Proofs.YtocbbekciphjgaaDoor.Sc
set_option linter.unusedVariables false
set_option linter.unusedSimpArgs false
theorem feeds_len (n : Nat) : (feeds n).length = n := by unfold feeds; simp
end Go.Proofs.YtocbbekciphjgaaDoor.Qd
namespace Go.Proofs.YtocbbekciphjgaaDoor.Dq
open Go.RowKit Go.Proofs.YtocbbekciphjgaaDoor.Pa Go.Proofs.YtocbbekciphjgaaDoor.Sc Go.Proofs.YtocbbekciphjgaaDoor.Qd
set_option linter.unusedVariables false
set_option linter.unusedSimpArgs false
/-- A row of line feeds, noughts behind it. -/
def fz (n i : Nat) : List Value := List.replicate i (.int .u8 10) ++ zeros (n - i)
theorem fz_set (n i : Nat) (h : i < n) : (fz n i).set i (.int .u8 10) = fz n (i + 1) := by
  apply List.ext_getElem?
  intro j
  unfold fz zeros
  rw [List.getElem?_set]
  simp only [List.length_append, List.length_replicate, List.getElem?_append, List.getElem?_replicate]
  by_cases h1 : i = j
  · subst h1
    simp
    omega
  · rw [if_neg h1]
    repeat' split
    all_goals first | rfl | (exfalso; omega)
theorem mkn (n : Nat) (hn : n ≤ 1000000) (w : World) : (Instr.makeSlice 22 (.int .i64 n) (.int .i64 n)).run Tryd.prog w = .ok (.slice (some ⟨w.heap.size, 0, none⟩) n n) (w.alloc (.cells (zeros n).toArray 5)) := by
  obtain ⟨i0, hi, hz0, hz1, hz2⟩ := info_parts info5
  have h := run_make (P := Tryd.prog) w 22 5 i0 (.int .u8 0) Tryd.underlying22 hi hz0 .i64 .i64 (n : Int) (n : Int) (by omega) (by omega) (by rw [hz2]; omega) (by omega)
  rw [h, hz1, Nat.mul_one]
  have e : madeCells (Value.int .u8 0).cells n = (zeros n).toArray := by
    unfold madeCells zeros
    apply Array.ext
    · simp
    · intro i h1 h2
      simp [Value.cells, Nat.mod_one]
  simp [e]
set_option maxHeartbeats 4000000 in
set_option maxRecDepth 100000 in
theorem feeds_any (n : Nat) (hn : n ≤ 1000000) (w : World) : Calls Tryd.prog 45 #[.int .i64 n] w fun e w' => e = .returned (.string (strOfNums (feeds n))) ∧ Below w.heap.size w w' := by
  have hmk := mkn n hn
  have j0 : max (n : Int) 0 = (n : Int) := by omega
  have j1 : (n : Int) ≤ 1000000 := by omega
  have HMK := Lib.hid hmk
  clear hmk
  obtain ⟨w1, HW1⟩ : ∃ w1 : World, Hid (w.alloc (.cells (zeros n).toArray 5) = w1) := ⟨_, rfl⟩
  have hb1 : Bk w1 w.heap.size 5 (fz n 0) := by rw [← HW1.out]; exact Bk.new _ _ _
  have hl1 : Below w.heap.size w w1 := by rw [← HW1.out]; exact (Below.refl _ _).alloc (Nat.le_refl _) _
  have HB1 := Lib.hid hb1
  have HL1 := Lib.hid hl1
  have hmk := HMK.out w
  rw [HW1.out] at hmk
  clear hb1 hl1 HW1 HMK
  go_enter Tryd.func45, Tryd.ntmps45
  go_wp2_with fail
  go_loopg [10] n (fun g s10 wr => ∃ i : Nat, g = n - i ∧ i ≤ n ∧ s10 = .int .i64 (i : Nat) ∧ Bk wr w.heap.size 5 (fz n i) ∧ Below w.heap.size w wr)
  case atStart => exact ⟨0, rfl, Nat.zero_le _, rfl, HB1.out, HL1.out⟩
  obtain ⟨i, hg, hi, rfl, hb, hl⟩ := hrel
  have HG := Lib.hid hg
  have HB := Lib.hid hb
  have HL := Lib.hid hl
  by_cases hlt : i < n
  · have j2 : (i : Int) < (n : Int) := by omega
    have j3 : (0 : Int) ≤ (i : Int) := by omega
    have hat : ∃ v, (fz n i)[i]? = some v := ⟨_, List.getElem?_eq_getElem (by unfold fz zeros; simp; omega)⟩
    obtain ⟨v0, hv0⟩ := hat
    obtain ⟨cg, fg⟩ := at_ hb i hv0
    clear hg hb hl hv0
    go_wp2_with fail
    go_roundg (n - (i + 1))
    case measure => have := HG.out; omega
    case rel =>
      refine ⟨i + 1, rfl, by omega, rfl, ?_, ?_⟩
      · have := HB.out.set i (.int .u8 10)
        rw [fz_set n i hlt] at this
        exact this
      · exact HL.out.setCell (p := ⟨w.heap.size, i, none⟩) (Nat.le_refl _) (.int .u8 10)
  · obtain rfl : i = n := by omega
    have j2 : ¬ ((i : Int) < (i : Int)) := by omega
    have hcv : (convert 22 9 (.slice (some ⟨w.heap.size, 0, none⟩) i i)).run Tryd.prog wr = .ok (.string (strOfNums (feeds i))) wr := by
      refine run_convert_bytes_arg wr 22 5 Tryd.underlying22 Tryd.underlying5 w.heap.size 0 i i (feeds i) (feeds_len i) (fun j hj => ?_) 9 Tryd.underlying9
      have hjl : j < i := by simpa [feeds_len] using hj
      rw [Nat.zero_add, (hb.cell j).1]
      unfold fz feeds
      rw [List.getElem?_append_left (by simp; omega), List.getElem?_replicate, if_pos hjl, List.getD_eq_getElem?_getD, List.getElem?_replicate, if_pos hjl]
      rfl
    clear hg hb hl
    go_wp2_with fail
    go_ret
    exact ⟨rfl, HL.out⟩
end Go.Proofs.YtocbbekciphjgaaDoor.Dq
/- QlD -/
/- What ten spaces and a letter, and an empty line, say behind a header (spec.Block): the walk. Printed by genQlD.py. -/
namespace Go.Proofs.YtocbbekciphjgaaDoor.Bk2
open Go.RowKit Go.Proofs.YtocbbekciphjgaaDoor.Rdp Go.Proofs.YtocbbekciphjgaaDoor.Pa Go.Proofs.YtocbbekciphjgaaDoor.Sc Go.Proofs.YtocbbekciphjgaaDoor.Qd Go.Proofs.YtocbbekciphjgaaDoor.Bs Go.Proofs.YtocbbekciphjgaaDoor.Dq Go.Proofs.YtocbbekciphjgaaDoor.Ln
set_option linter.unusedVariables false
set_option linter.unusedSimpArgs false
theorem _root_.Go.World.ownsRow_kp {lo : Nat} {w w' : World} {v : Value} {n : Nat} {l : List Value} (h : w.ownsRow lo 84 1 v n l) (hk : Kp [] w w') : w'.ownsRow lo 84 1 v n l := by
  obtain ⟨h1, ⟨rfl, h0⟩ | ⟨g, c, cur, rfl, h2, h3, h4⟩⟩ := h
  · exact ⟨h1, .inl ⟨rfl, h0⟩⟩
  · exact ⟨h1, .inr ⟨g, c, cur, rfl, h2, (hk.block g (Array.getElem?_eq_some_iff.1 h3).1 (by simp)).trans h3, h4⟩⟩
theorem tabs_below {w w' : World} (h : Tabs w) (hb : Below w.heap.size w w') : Tabs w' := by
  obtain ⟨h1, h2⟩ := h
  refine ⟨fun c hc => ?_, fun i hi => ⟨?_, ?_⟩⟩
  · have := h1 c hc
    rw [hb.cell (World.block_lt_of_cell? w _ this)]
    exact this
  · have := (h2 i hi).1
    rw [hb.cell (World.block_lt_of_cell? w _ this)]
    exact this
  · have := (h2 i hi).2
    rw [hb.cell (World.block_lt_of_cell? w _ this)]
    exact this
theorem und84 : Tryd.prog.underlying 84 = some (.slice 21) := by kernel_rfl
theorem und21 : Tryd.prog.underlying 21 = some (.int .i32) := by kernel_rfl
theorem und9 : Tryd.prog.underlying 9 = some .string := by kernel_rfl
theorem size_ten (d : Nat) (h : d ≤ 10) : (runesBytes ((ten.drop d).take (11 - d))).size ≤ 11 := by
  have : ∀ d, d ≤ 10 → (runesBytes ((ten.drop d).take (11 - d))).size ≤ 11 := by decide +kernel
  exact this d h
theorem empty_app (s : ByteArray) : (⟨#[]⟩ : ByteArray) ++ s = s := by
  apply ByteArray.ext
  simp
theorem ret_str {a b : ByteArray} (h : a = b) : Ending.returned (.tuple #[.string a, .int .i64 2]) = .returned (.tuple #[.string b, .int .i64 2]) := by rw [h]
theorem eql84 (w : World) : (binOp .eql 84 (.slice none 0 0) (.slice none 0 0)).run Tryd.prog w = .ok (.bool true) w := by kernel_rfl
theorem neq84 (a : Addr) (n c : Nat) (w : World) : (binOp .neq 84 (.slice (some a) n c) (.slice none 0 0)).run Tryd.prog w = .ok (.bool true) w := by kernel_rfl
set_option maxHeartbeats 16000000 in
set_option maxRecDepth 100000 in
theorem block_0 (e : Nat) (he : e ≤ 9) (d : Nat) (hd : d = if e = 0 then 10 else e) (fold : Bool) (sb : Nat) (w : World) (hT : Tabs w) (c0 : w.cell? ⟨sb, 0, none⟩ = some (.string sTen)) (c1 : w.cell? ⟨sb, 1, none⟩ = some (.string ⟨#[]⟩)) (hsb : sb < w.heap.size) :
    Calls Tryd.prog 27 #[.slice (some ⟨sb, 0, none⟩) 2 2, .bool fold, .int .i64 0, .int .i64 (e : Nat), .int .i64 0] w fun r w' => r = .returned (.tuple #[.string (strOfNums (us (Bs.sps (10 - d) ++ [97]))), .int .i64 2]) ∧ Below w.heap.size w w' := by
  have hd1 : 1 ≤ d := by rw [hd]; split <;> omega
  have hd2 : d ≤ 10 := by rw [hd]; split <;> omega
  have hru := runes_ten w hT
  have HRU := Lib.hid hru
  have HT := Lib.hid hT
  have HC1 := Lib.hid c1
  have HD := Lib.hid hd
  clear hru hT hd
  go_enter Tryd.func27, Tryd.ntmps27
  go_wp2_with fail
  refine wp_loop_rounds 3 ?_
  rw [rounds_succ]
  go_wp2_with fail
  refine HRU.out.mono ?_
  rintro r w1 ⟨hb1, b1, cp1, rfl, ⟨hc10, hc11⟩, hz1⟩
  have hal := all_ten b1 cp1 w1 hz1
  have hlb1 : b1 < w1.heap.size := World.block_lt_of_cell? w1 ⟨b1, 0, none⟩ (hz1 0 (by decide))
  have HAL := Lib.hid hal
  have HB1 := Lib.hid hb1
  have HZ1 := Lib.hid hz1
  clear hal hb1 hz1 HRU
  go_wp2_with fail
  refine HAL.out.mono ?_
  rintro r w2 ⟨rfl, rfl⟩
  go_wp2_with ((at_builtin; refine wpList_row rfl (.tmp 43) (.tmp 45) rfl w2.heap.size _ [] (.slice (some ⟨b1, 0, none⟩) 11 cp1) rfl rfl (RowS.nil _ _) w2.heap.size 1 rfl (by simp [World.cell?_alloc_new]) (by simp) (by simp) ?_))
  intro g1 cap1 w3 hr3 hg3 hgg3
  have hk3 : Kp [] w2 w3 := ((Kp.refl [] w2).alloc _).trans (grown_kp hg3 (fun b hb => by cases hb))
  have hz3 : Zs w3 b1 ten := fun j hj => (hk3.cell (x := ⟨b1, j, none⟩) hlb1 (by simp)).trans (HZ1.out j hj)
  have HB3 : Hid (Below w.heap.size w w3) := HB1.out.trans (hk3.below HB1.out.size (by simp))
  have HT3 : Hid (Tabs w3) := tabs_below HT.out HB3.out
  have c1' : w3.cell? ⟨sb, 1, none⟩ = some (.string ⟨#[]⟩) := by rw [HB3.out.cell (p := ⟨sb, 1, none⟩) hsb]; exact HC1.out
  have hru := runes_nil w3 HT3.out
  have HRU := Lib.hid hru
  have HR3 := Lib.hid hr3
  have HZ3 := Lib.hid hz3
  have hs3 : b1 < w3.heap.size := by have := hk3.size; omega
  have hlo3 : w2.heap.size ≤ w3.heap.size := hk3.size
  have HLOW : Hid (w.heap.size ≤ w2.heap.size) := HB1.out.size
  clear hru hr3 hg3 hgg3 hk3 hz3 HB1 HZ1 HAL
  go_wp2_with fail
  rw [rounds_succ]
  go_wp2_with fail
  refine HRU.out.mono ?_
  rintro r w4 ⟨hb4, b2, cp2, rfl, hc2⟩
  have hal := all_nil b2 cp2 w4
  have HAL := Lib.hid hal
  have hk4 : Kp [] w3 w4 := Kp.of_below hb4
  have HR4 : Hid (RowS w2.heap.size w4 (.slice (some ⟨g1, 0, none⟩) 1 cap1) [.slice (some ⟨b1, 0, none⟩) 11 cp1]) := (World.ownsRow_kp HR3.out hk4)
  have HZ4 : Hid (Zs w4 b1 ten) := fun j hj => (hk4.cell (x := ⟨b1, j, none⟩) hs3 (by simp)).trans (HZ3.out j hj)
  have HB4 : Hid (Below w.heap.size w w4) := HB3.out.trans (hb4.mono HB3.out.size)
  have hs4 : b1 < w4.heap.size := by have := hk4.size; omega
  have hlo4 : w2.heap.size ≤ w4.heap.size := by have := hk4.size; omega
  clear hal hb4 hk4 HRU HR3 HZ3 HB3 HT3
  go_wp2_with fail
  refine HAL.out.mono ?_
  rintro r w5 ⟨rfl, rfl⟩
  go_wp2_with ((at_builtin; refine wpList_row rfl (.tmp 43) (.tmp 45) rfl w2.heap.size _ [.slice (some ⟨b1, 0, none⟩) 11 cp1] (.slice (some ⟨b2, 0, none⟩) 0 cp2) rfl rfl (World.ownsRow.alloc HR4.out _) w5.heap.size 1 rfl (by simp [World.cell?_alloc_new]) (by simp) (Nat.le_trans hlo4 (by simp)) ?_))
  intro g2 cap2 w6 hr6 hg6 hgg6
  have hown : b1 ≠ g1 := by
    have := (World.ownsRow.lt HR4.out g1 rfl).1
    omega
  have hk6 : Kp [g1] w5 w6 := ((Kp.refl [g1] w5).alloc _).trans (grown_kp hg6 (fun b hb => by cases hb; simp))
  have HZ6 : Hid (Zs w6 b1 ten) := fun j hj => (hk6.cell (x := ⟨b1, j, none⟩) hs4 (by simp; exact hown)).trans (HZ4.out j hj)
  have HB6 : Hid (Below w.heap.size w w6) := HB4.out.trans (hk6.below HB4.out.size (fun k hk => by
    rw [List.mem_singleton] at hk
    have := (World.ownsRow.lt HR4.out g1 rfl).1
    have := HLOW.out
    omega))
  have r0 : w6.cell? ⟨g2, 0, none⟩ = some (.slice (some ⟨b1, 0, none⟩) 11 cp1) := RowS.cell hr6 0 rfl
  have r1 : w6.cell? ⟨g2, 1, none⟩ = some (.slice (some ⟨b2, 0, none⟩) 0 cp2) := RowS.cell hr6 1 rfl
  have hin := indent_any e he g2 cap2 b1 cp1 b2 cp2 w6 r0 r1 HZ6.out hc10 hc11 hc2
  rw [← HD.out] at hin
  have HIN := Lib.hid hin
  have R0 := Lib.hid r0
  have R1 := Lib.hid r1
  clear hin hr6 hg6 hgg6 hk6 HR4 HZ4 HB4 HAL HC1 c0 c1' r0 r1 hown
  go_wp2_with fail
  rw [rounds_succ]
  go_wp2_with fail
  refine HIN.out.mono ?_
  rintro r w7 ⟨rfl, rfl⟩
  have r0 := R0.out
  have r1 := R1.out
  have k1 : decide ((11 : Int) ≤ (d : Int)) = false := decide_eq_false (by omega)
  have k1' : ¬ ((11 : Int) ≤ (d : Int)) := by omega
  have k2 : (0 : Int) ≤ (d : Int) := by omega
  have k3 : (d : Int) ≤ 11 := by omega
  have k4 : (11 : Int) ≤ (cp1 : Int) := by omega
  have k5 : (cp1 : Int) ≤ 9223372036854775807 := by omega
  have HBT := Lib.hid (bytes_ten d hd1 hd2)
  have q0 := eql84
  clear HIN
  go_wp2_with fail
  refine wp_loop_rounds 3 ?_
  rw [rounds_succ]
  go_wp2_with fail
  refine (feeds_any 0 (by decide) _).mono ?_
  rintro r w8 ⟨rfl, hb8⟩
  have hz8 : ∀ j, j < 11 - d → w8.cell? ((⟨b1, d, none⟩ : Addr).add j) = some (.int .i32 ((ten.drop d).getD j 0)) := by
    intro j hj
    have hlt : d + j < ten.length := by show d + j < 11; omega
    have h1 := HZ6.out (d + j) hlt
    rw [Addr.add_lit, hb8.cell (p := ⟨b1, d + j, none⟩) (World.block_lt_of_cell? _ _ h1), h1, List.getD_eq_getElem?_getD, List.getD_eq_getElem?_getD, List.getElem?_drop]
  have hcv := run_convert_runes (P := Tryd.prog) w8 84 9 21 ⟨b1, d, none⟩ (11 - d) (cp1 - d) (ten.drop d) (by rw [List.length_drop]; exact Nat.le_refl _) und84 und21 und9 (by rw [List.length_drop]; exact hz8)
  rw [HBT.out] at hcv
  obtain ⟨sr, HSR⟩ : ∃ sr, Hid (strOfNums (us (Bs.sps (10 - d) ++ [97])) = sr) := ⟨_, Lib.hid rfl⟩
  have hsrz : sr.size ≤ 11 := by
    rw [← HSR.out, ← bytes_ten d hd1 hd2]
    exact size_ten d hd2
  rw [HSR.out] at hcv
  have r0 : w8.cell? ⟨g2, 0, none⟩ = some (.slice (some ⟨b1, 0, none⟩) 11 cp1) := by rw [hb8.cell (p := ⟨g2, 0, none⟩) (World.block_lt_of_cell? _ _ R0.out)]; exact R0.out
  have r1 : w8.cell? ⟨g2, 1, none⟩ = some (.slice (some ⟨b2, 0, none⟩) 0 cp2) := by rw [hb8.cell (p := ⟨g2, 1, none⟩) (World.block_lt_of_cell? _ _ R1.out)]; exact R1.out
  have HB8 := Lib.hid (HB6.out.trans (hb8.mono HB6.out.size))
  have k6 : (0 : Int) ≤ (d : Int) := by omega
  have n1 := neq84 ⟨b1, d, none⟩ (11 - d) (cp1 - d)
  clear hb8 hz8 HBT R0 R1 HZ6 HB6
  rw [show strOfNums (feeds 0) = ⟨#[]⟩ from rfl]
  go_wp2_with fail
  rw [rounds_succ]
  go_wp2_with fail
  rw [rounds_succ]
  go_wp2_with fail
  refine bodyPost_ret (by simp [results, Tryd.results27, go_sem]; try rfl) rfl ?_
  exact ⟨ret_str (by rw [HSR.out, empty_app]), HB8.out⟩
set_option maxHeartbeats 16000000 in
set_option maxRecDepth 100000 in
theorem block_1 (e : Nat) (he : e ≤ 9) (d : Nat) (hd : d = if e = 0 then 10 else e) (fold : Bool) (sb : Nat) (w : World) (hT : Tabs w) (c0 : w.cell? ⟨sb, 0, none⟩ = some (.string sTen)) (c1 : w.cell? ⟨sb, 1, none⟩ = some (.string ⟨#[]⟩)) (hsb : sb < w.heap.size) :
    Calls Tryd.prog 27 #[.slice (some ⟨sb, 0, none⟩) 2 2, .bool fold, .int .i64 1, .int .i64 (e : Nat), .int .i64 0] w fun r w' => r = .returned (.tuple #[.string (strOfNums (us (Bs.sps (10 - d) ++ [97])) ++ ⟨#[10]⟩), .int .i64 2]) ∧ Below w.heap.size w w' := by
  have hd1 : 1 ≤ d := by rw [hd]; split <;> omega
  have hd2 : d ≤ 10 := by rw [hd]; split <;> omega
  have hru := runes_ten w hT
  have HRU := Lib.hid hru
  have HT := Lib.hid hT
  have HC1 := Lib.hid c1
  have HD := Lib.hid hd
  clear hru hT hd
  go_enter Tryd.func27, Tryd.ntmps27
  go_wp2_with fail
  refine wp_loop_rounds 3 ?_
  rw [rounds_succ]
  go_wp2_with fail
  refine HRU.out.mono ?_
  rintro r w1 ⟨hb1, b1, cp1, rfl, ⟨hc10, hc11⟩, hz1⟩
  have hal := all_ten b1 cp1 w1 hz1
  have hlb1 : b1 < w1.heap.size := World.block_lt_of_cell? w1 ⟨b1, 0, none⟩ (hz1 0 (by decide))
  have HAL := Lib.hid hal
  have HB1 := Lib.hid hb1
  have HZ1 := Lib.hid hz1
  clear hal hb1 hz1 HRU
  go_wp2_with fail
  refine HAL.out.mono ?_
  rintro r w2 ⟨rfl, rfl⟩
  go_wp2_with ((at_builtin; refine wpList_row rfl (.tmp 43) (.tmp 45) rfl w2.heap.size _ [] (.slice (some ⟨b1, 0, none⟩) 11 cp1) rfl rfl (RowS.nil _ _) w2.heap.size 1 rfl (by simp [World.cell?_alloc_new]) (by simp) (by simp) ?_))
  intro g1 cap1 w3 hr3 hg3 hgg3
  have hk3 : Kp [] w2 w3 := ((Kp.refl [] w2).alloc _).trans (grown_kp hg3 (fun b hb => by cases hb))
  have hz3 : Zs w3 b1 ten := fun j hj => (hk3.cell (x := ⟨b1, j, none⟩) hlb1 (by simp)).trans (HZ1.out j hj)
  have HB3 : Hid (Below w.heap.size w w3) := HB1.out.trans (hk3.below HB1.out.size (by simp))
  have HT3 : Hid (Tabs w3) := tabs_below HT.out HB3.out
  have c1' : w3.cell? ⟨sb, 1, none⟩ = some (.string ⟨#[]⟩) := by rw [HB3.out.cell (p := ⟨sb, 1, none⟩) hsb]; exact HC1.out
  have hru := runes_nil w3 HT3.out
  have HRU := Lib.hid hru
  have HR3 := Lib.hid hr3
  have HZ3 := Lib.hid hz3
  have hs3 : b1 < w3.heap.size := by have := hk3.size; omega
  have hlo3 : w2.heap.size ≤ w3.heap.size := hk3.size
  have HLOW : Hid (w.heap.size ≤ w2.heap.size) := HB1.out.size
  clear hru hr3 hg3 hgg3 hk3 hz3 HB1 HZ1 HAL
  go_wp2_with fail
  rw [rounds_succ]
  go_wp2_with fail
  refine HRU.out.mono ?_
  rintro r w4 ⟨hb4, b2, cp2, rfl, hc2⟩
  have hal := all_nil b2 cp2 w4
  have HAL := Lib.hid hal
  have hk4 : Kp [] w3 w4 := Kp.of_below hb4
  have HR4 : Hid (RowS w2.heap.size w4 (.slice (some ⟨g1, 0, none⟩) 1 cap1) [.slice (some ⟨b1, 0, none⟩) 11 cp1]) := (World.ownsRow_kp HR3.out hk4)
  have HZ4 : Hid (Zs w4 b1 ten) := fun j hj => (hk4.cell (x := ⟨b1, j, none⟩) hs3 (by simp)).trans (HZ3.out j hj)
  have HB4 : Hid (Below w.heap.size w w4) := HB3.out.trans (hb4.mono HB3.out.size)
  have hs4 : b1 < w4.heap.size := by have := hk4.size; omega
  have hlo4 : w2.heap.size ≤ w4.heap.size := by have := hk4.size; omega
  clear hal hb4 hk4 HRU HR3 HZ3 HB3 HT3
  go_wp2_with fail
  refine HAL.out.mono ?_
  rintro r w5 ⟨rfl, rfl⟩
  go_wp2_with ((at_builtin; refine wpList_row rfl (.tmp 43) (.tmp 45) rfl w2.heap.size _ [.slice (some ⟨b1, 0, none⟩) 11 cp1] (.slice (some ⟨b2, 0, none⟩) 0 cp2) rfl rfl (World.ownsRow.alloc HR4.out _) w5.heap.size 1 rfl (by simp [World.cell?_alloc_new]) (by simp) (Nat.le_trans hlo4 (by simp)) ?_))
  intro g2 cap2 w6 hr6 hg6 hgg6
  have hown : b1 ≠ g1 := by
    have := (World.ownsRow.lt HR4.out g1 rfl).1
    omega
  have hk6 : Kp [g1] w5 w6 := ((Kp.refl [g1] w5).alloc _).trans (grown_kp hg6 (fun b hb => by cases hb; simp))
  have HZ6 : Hid (Zs w6 b1 ten) := fun j hj => (hk6.cell (x := ⟨b1, j, none⟩) hs4 (by simp; exact hown)).trans (HZ4.out j hj)
  have HB6 : Hid (Below w.heap.size w w6) := HB4.out.trans (hk6.below HB4.out.size (fun k hk => by
    rw [List.mem_singleton] at hk
    have := (World.ownsRow.lt HR4.out g1 rfl).1
    have := HLOW.out
    omega))
  have r0 : w6.cell? ⟨g2, 0, none⟩ = some (.slice (some ⟨b1, 0, none⟩) 11 cp1) := RowS.cell hr6 0 rfl
  have r1 : w6.cell? ⟨g2, 1, none⟩ = some (.slice (some ⟨b2, 0, none⟩) 0 cp2) := RowS.cell hr6 1 rfl
  have hin := indent_any e he g2 cap2 b1 cp1 b2 cp2 w6 r0 r1 HZ6.out hc10 hc11 hc2
  rw [← HD.out] at hin
  have HIN := Lib.hid hin
  have R0 := Lib.hid r0
  have R1 := Lib.hid r1
  clear hin hr6 hg6 hgg6 hk6 HR4 HZ4 HB4 HAL HC1 c0 c1' r0 r1 hown
  go_wp2_with fail
  rw [rounds_succ]
  go_wp2_with fail
  refine HIN.out.mono ?_
  rintro r w7 ⟨rfl, rfl⟩
  have r0 := R0.out
  have r1 := R1.out
  have k1 : decide ((11 : Int) ≤ (d : Int)) = false := decide_eq_false (by omega)
  have k1' : ¬ ((11 : Int) ≤ (d : Int)) := by omega
  have k2 : (0 : Int) ≤ (d : Int) := by omega
  have k3 : (d : Int) ≤ 11 := by omega
  have k4 : (11 : Int) ≤ (cp1 : Int) := by omega
  have k5 : (cp1 : Int) ≤ 9223372036854775807 := by omega
  have HBT := Lib.hid (bytes_ten d hd1 hd2)
  have q0 := eql84
  clear HIN
  go_wp2_with fail
  refine wp_loop_rounds 3 ?_
  rw [rounds_succ]
  go_wp2_with fail
  refine (feeds_any 0 (by decide) _).mono ?_
  rintro r w8 ⟨rfl, hb8⟩
  have hz8 : ∀ j, j < 11 - d → w8.cell? ((⟨b1, d, none⟩ : Addr).add j) = some (.int .i32 ((ten.drop d).getD j 0)) := by
    intro j hj
    have hlt : d + j < ten.length := by show d + j < 11; omega
    have h1 := HZ6.out (d + j) hlt
    rw [Addr.add_lit, hb8.cell (p := ⟨b1, d + j, none⟩) (World.block_lt_of_cell? _ _ h1), h1, List.getD_eq_getElem?_getD, List.getD_eq_getElem?_getD, List.getElem?_drop]
  have hcv := run_convert_runes (P := Tryd.prog) w8 84 9 21 ⟨b1, d, none⟩ (11 - d) (cp1 - d) (ten.drop d) (by rw [List.length_drop]; exact Nat.le_refl _) und84 und21 und9 (by rw [List.length_drop]; exact hz8)
  rw [HBT.out] at hcv
  obtain ⟨sr, HSR⟩ : ∃ sr, Hid (strOfNums (us (Bs.sps (10 - d) ++ [97])) = sr) := ⟨_, Lib.hid rfl⟩
  have hsrz : sr.size ≤ 11 := by
    rw [← HSR.out, ← bytes_ten d hd1 hd2]
    exact size_ten d hd2
  rw [HSR.out] at hcv
  have r0 : w8.cell? ⟨g2, 0, none⟩ = some (.slice (some ⟨b1, 0, none⟩) 11 cp1) := by rw [hb8.cell (p := ⟨g2, 0, none⟩) (World.block_lt_of_cell? _ _ R0.out)]; exact R0.out
  have r1 : w8.cell? ⟨g2, 1, none⟩ = some (.slice (some ⟨b2, 0, none⟩) 0 cp2) := by rw [hb8.cell (p := ⟨g2, 1, none⟩) (World.block_lt_of_cell? _ _ R1.out)]; exact R1.out
  have HB8 := Lib.hid (HB6.out.trans (hb8.mono HB6.out.size))
  have k6 : (0 : Int) ≤ (d : Int) := by omega
  have n1 := neq84 ⟨b1, d, none⟩ (11 - d) (cp1 - d)
  clear hb8 hz8 HBT R0 R1 HZ6 HB6
  rw [show strOfNums (feeds 0) = ⟨#[]⟩ from rfl]
  go_wp2_with fail
  rw [rounds_succ]
  go_wp2_with fail
  rw [rounds_succ]
  go_wp2_with fail
  refine bodyPost_ret (by simp [results, Tryd.results27, go_sem]; try rfl) rfl ?_
  exact ⟨ret_str (by rw [HSR.out, empty_app]), HB8.out⟩
set_option maxHeartbeats 16000000 in
set_option maxRecDepth 100000 in
theorem block_2 (e : Nat) (he : e ≤ 9) (d : Nat) (hd : d = if e = 0 then 10 else e) (fold : Bool) (sb : Nat) (w : World) (hT : Tabs w) (c0 : w.cell? ⟨sb, 0, none⟩ = some (.string sTen)) (c1 : w.cell? ⟨sb, 1, none⟩ = some (.string ⟨#[]⟩)) (hsb : sb < w.heap.size) :
    Calls Tryd.prog 27 #[.slice (some ⟨sb, 0, none⟩) 2 2, .bool fold, .int .i64 2, .int .i64 (e : Nat), .int .i64 0] w fun r w' => r = .returned (.tuple #[.string (strOfNums (us (Bs.sps (10 - d) ++ [97])) ++ strOfNums (feeds 2)), .int .i64 2]) ∧ Below w.heap.size w w' := by
  have hd1 : 1 ≤ d := by rw [hd]; split <;> omega
  have hd2 : d ≤ 10 := by rw [hd]; split <;> omega
  have hru := runes_ten w hT
  have HRU := Lib.hid hru
  have HT := Lib.hid hT
  have HC1 := Lib.hid c1
  have HD := Lib.hid hd
  clear hru hT hd
  go_enter Tryd.func27, Tryd.ntmps27
  go_wp2_with fail
  refine wp_loop_rounds 3 ?_
  rw [rounds_succ]
  go_wp2_with fail
  refine HRU.out.mono ?_
  rintro r w1 ⟨hb1, b1, cp1, rfl, ⟨hc10, hc11⟩, hz1⟩
  have hal := all_ten b1 cp1 w1 hz1
  have hlb1 : b1 < w1.heap.size := World.block_lt_of_cell? w1 ⟨b1, 0, none⟩ (hz1 0 (by decide))
  have HAL := Lib.hid hal
  have HB1 := Lib.hid hb1
  have HZ1 := Lib.hid hz1
  clear hal hb1 hz1 HRU
  go_wp2_with fail
  refine HAL.out.mono ?_
  rintro r w2 ⟨rfl, rfl⟩
  go_wp2_with ((at_builtin; refine wpList_row rfl (.tmp 43) (.tmp 45) rfl w2.heap.size _ [] (.slice (some ⟨b1, 0, none⟩) 11 cp1) rfl rfl (RowS.nil _ _) w2.heap.size 1 rfl (by simp [World.cell?_alloc_new]) (by simp) (by simp) ?_))
  intro g1 cap1 w3 hr3 hg3 hgg3
  have hk3 : Kp [] w2 w3 := ((Kp.refl [] w2).alloc _).trans (grown_kp hg3 (fun b hb => by cases hb))
  have hz3 : Zs w3 b1 ten := fun j hj => (hk3.cell (x := ⟨b1, j, none⟩) hlb1 (by simp)).trans (HZ1.out j hj)
  have HB3 : Hid (Below w.heap.size w w3) := HB1.out.trans (hk3.below HB1.out.size (by simp))
  have HT3 : Hid (Tabs w3) := tabs_below HT.out HB3.out
  have c1' : w3.cell? ⟨sb, 1, none⟩ = some (.string ⟨#[]⟩) := by rw [HB3.out.cell (p := ⟨sb, 1, none⟩) hsb]; exact HC1.out
  have hru := runes_nil w3 HT3.out
  have HRU := Lib.hid hru
  have HR3 := Lib.hid hr3
  have HZ3 := Lib.hid hz3
  have hs3 : b1 < w3.heap.size := by have := hk3.size; omega
  have hlo3 : w2.heap.size ≤ w3.heap.size := hk3.size
  have HLOW : Hid (w.heap.size ≤ w2.heap.size) := HB1.out.size
  clear hru hr3 hg3 hgg3 hk3 hz3 HB1 HZ1 HAL
  go_wp2_with fail
  rw [rounds_succ]
  go_wp2_with fail
  refine HRU.out.mono ?_
  rintro r w4 ⟨hb4, b2, cp2, rfl, hc2⟩
  have hal := all_nil b2 cp2 w4
  have HAL := Lib.hid hal
  have hk4 : Kp [] w3 w4 := Kp.of_below hb4
  have HR4 : Hid (RowS w2.heap.size w4 (.slice (some ⟨g1, 0, none⟩) 1 cap1) [.slice (some ⟨b1, 0, none⟩) 11 cp1]) := (World.ownsRow_kp HR3.out hk4)
  have HZ4 : Hid (Zs w4 b1 ten) := fun j hj => (hk4.cell (x := ⟨b1, j, none⟩) hs3 (by simp)).trans (HZ3.out j hj)
  have HB4 : Hid (Below w.heap.size w w4) := HB3.out.trans (hb4.mono HB3.out.size)
  have hs4 : b1 < w4.heap.size := by have := hk4.size; omega
  have hlo4 : w2.heap.size ≤ w4.heap.size := by have := hk4.size; omega
  clear hal hb4 hk4 HRU HR3 HZ3 HB3 HT3
  go_wp2_with fail
  refine HAL.out.mono ?_
  rintro r w5 ⟨rfl, rfl⟩
  go_wp2_with ((at_builtin; refine wpList_row rfl (.tmp 43) (.tmp 45) rfl w2.heap.size _ [.slice (some ⟨b1, 0, none⟩) 11 cp1] (.slice (some ⟨b2, 0, none⟩) 0 cp2) rfl rfl (World.ownsRow.alloc HR4.out _) w5.heap.size 1 rfl (by simp [World.cell?_alloc_new]) (by simp) (Nat.le_trans hlo4 (by simp)) ?_))
  intro g2 cap2 w6 hr6 hg6 hgg6
  have hown : b1 ≠ g1 := by
    have := (World.ownsRow.lt HR4.out g1 rfl).1
    omega
  have hk6 : Kp [g1] w5 w6 := ((Kp.refl [g1] w5).alloc _).trans (grown_kp hg6 (fun b hb => by cases hb; simp))
  have HZ6 : Hid (Zs w6 b1 ten) := fun j hj => (hk6.cell (x := ⟨b1, j, none⟩) hs4 (by simp; exact hown)).trans (HZ4.out j hj)
  have HB6 : Hid (Below w.heap.size w w6) := HB4.out.trans (hk6.below HB4.out.size (fun k hk => by
    rw [List.mem_singleton] at hk
    have := (World.ownsRow.lt HR4.out g1 rfl).1
    have := HLOW.out
    omega))
  have r0 : w6.cell? ⟨g2, 0, none⟩ = some (.slice (some ⟨b1, 0, none⟩) 11 cp1) := RowS.cell hr6 0 rfl
  have r1 : w6.cell? ⟨g2, 1, none⟩ = some (.slice (some ⟨b2, 0, none⟩) 0 cp2) := RowS.cell hr6 1 rfl
  have hin := indent_any e he g2 cap2 b1 cp1 b2 cp2 w6 r0 r1 HZ6.out hc10 hc11 hc2
  rw [← HD.out] at hin
  have HIN := Lib.hid hin
  have R0 := Lib.hid r0
  have R1 := Lib.hid r1
  clear hin hr6 hg6 hgg6 hk6 HR4 HZ4 HB4 HAL HC1 c0 c1' r0 r1 hown
  go_wp2_with fail
  rw [rounds_succ]
  go_wp2_with fail
  refine HIN.out.mono ?_
  rintro r w7 ⟨rfl, rfl⟩
  have r0 := R0.out
  have r1 := R1.out
  have k1 : decide ((11 : Int) ≤ (d : Int)) = false := decide_eq_false (by omega)
  have k1' : ¬ ((11 : Int) ≤ (d : Int)) := by omega
  have k2 : (0 : Int) ≤ (d : Int) := by omega
  have k3 : (d : Int) ≤ 11 := by omega
  have k4 : (11 : Int) ≤ (cp1 : Int) := by omega
  have k5 : (cp1 : Int) ≤ 9223372036854775807 := by omega
  have HBT := Lib.hid (bytes_ten d hd1 hd2)
  have q0 := eql84
  clear HIN
  go_wp2_with fail
  refine wp_loop_rounds 3 ?_
  rw [rounds_succ]
  go_wp2_with fail
  refine (feeds_any 0 (by decide) _).mono ?_
  rintro r w8 ⟨rfl, hb8⟩
  have hz8 : ∀ j, j < 11 - d → w8.cell? ((⟨b1, d, none⟩ : Addr).add j) = some (.int .i32 ((ten.drop d).getD j 0)) := by
    intro j hj
    have hlt : d + j < ten.length := by show d + j < 11; omega
    have h1 := HZ6.out (d + j) hlt
    rw [Addr.add_lit, hb8.cell (p := ⟨b1, d + j, none⟩) (World.block_lt_of_cell? _ _ h1), h1, List.getD_eq_getElem?_getD, List.getD_eq_getElem?_getD, List.getElem?_drop]
  have hcv := run_convert_runes (P := Tryd.prog) w8 84 9 21 ⟨b1, d, none⟩ (11 - d) (cp1 - d) (ten.drop d) (by rw [List.length_drop]; exact Nat.le_refl _) und84 und21 und9 (by rw [List.length_drop]; exact hz8)
  rw [HBT.out] at hcv
  obtain ⟨sr, HSR⟩ : ∃ sr, Hid (strOfNums (us (Bs.sps (10 - d) ++ [97])) = sr) := ⟨_, Lib.hid rfl⟩
  have hsrz : sr.size ≤ 11 := by
    rw [← HSR.out, ← bytes_ten d hd1 hd2]
    exact size_ten d hd2
  rw [HSR.out] at hcv
  have r0 : w8.cell? ⟨g2, 0, none⟩ = some (.slice (some ⟨b1, 0, none⟩) 11 cp1) := by rw [hb8.cell (p := ⟨g2, 0, none⟩) (World.block_lt_of_cell? _ _ R0.out)]; exact R0.out
  have r1 : w8.cell? ⟨g2, 1, none⟩ = some (.slice (some ⟨b2, 0, none⟩) 0 cp2) := by rw [hb8.cell (p := ⟨g2, 1, none⟩) (World.block_lt_of_cell? _ _ R1.out)]; exact R1.out
  have HB8 := Lib.hid (HB6.out.trans (hb8.mono HB6.out.size))
  have k6 : (0 : Int) ≤ (d : Int) := by omega
  have n1 := neq84 ⟨b1, d, none⟩ (11 - d) (cp1 - d)
  clear hb8 hz8 HBT R0 R1 HZ6 HB6
  rw [show strOfNums (feeds 0) = ⟨#[]⟩ from rfl]
  go_wp2_with fail
  rw [rounds_succ]
  go_wp2_with fail
  rw [rounds_succ]
  go_wp2_with fail
  refine (feeds_any 2 (by decide) _).mono ?_
  rintro r w9 ⟨rfl, hb9⟩
  have HB9 := Lib.hid (HB8.out.trans (hb9.mono HB8.out.size))
  obtain ⟨sf, HSF⟩ : ∃ sf, Hid (strOfNums (feeds 2) = sf) := ⟨_, Lib.hid rfl⟩
  have hsf : sf.size ≤ 2 := by rw [← HSF.out]; decide
  have hsz9 : sr.size + sf.size ≤ 9223372036854775807 := by omega
  rw [HSF.out]
  clear hb9
  go_wp2_with fail
  refine bodyPost_ret (by simp [results, Tryd.results27, go_sem]; try rfl) rfl ?_
  exact ⟨ret_str (by rw [HSR.out, HSF.out, empty_app]), HB9.out⟩
end Go.Proofs.YtocbbekciphjgaaDoor.Bk2
/- QxJ -/
/- The text's end, the first character, a fault; what an append leaves. -/
namespace Go.Proofs.YtocbbekciphjgaaDoor.Qd
open Go.RowKit Go.Proofs.YtocbbekciphjgaaDoor.Rdp Go.Proofs.YtocbbekciphjgaaDoor.Pa Go.Proofs.YtocbbekciphjgaaDoor.Sc
set_option linter.unusedVariables false
set_option linter.unusedSimpArgs false
/-- The text ends with a line feed. -/
def Lfd (rest : List Int) : Prop := rest = [] ∨ ∃ r, rest = r ++ [10]
theorem Lfd.tail {x : Int} {r : List Int} (h : Lfd (x :: r)) : Lfd r := by
  rcases h with h | ⟨l, h⟩
  · cases h
  · cases l with
    | nil => obtain rfl := (List.cons.inj h).2; exact .inl rfl
    | cons y l => exact .inr ⟨l, (List.cons.inj h).2⟩
theorem Lfd.last {x : Int} (h : Lfd [x]) : x = 10 := by
  rcases h with h | ⟨l, h⟩
  · cases h
  · cases l with
    | nil => exact (List.cons.inj h).1
    | cons y l => have := (List.cons.inj h).2; simp at this
theorem fb_inv {rest : List Int} (hc : ∀ x ∈ rest, Ch x) {y : Int} (h : fb rest = y) (h0 : 0 < y) (h1 : y < 128) : ∃ r, rest = y :: r := by
  cases rest with
  | nil => have : (0 : Int) = y := h; omega
  | cons x r =>
    have hx := hc x (by simp)
    by_cases hl : x < 128
    · rw [fb_small hl] at h
      subst h
      exact ⟨r, rfl⟩
    · have := fb_great (r := r) hx (by omega)
      omega
theorem fb_pos {rest : List Int} (hc : ∀ x ∈ rest, Ch x) : rest = [] ∨ 0 < fb rest := by
  cases rest with
  | nil => exact .inl rfl
  | cons x r =>
    have hx := hc x (by simp)
    refine .inr ?_
    by_cases hl : x < 128
    · rw [fb_small hl]
      have := hx.range
      omega
    · have := fb_great (r := r) hx (by omega)
      omega
/-- What is left by a fault. -/
def Er (k : Kn) (p : Nat) (w1 w' : World) : Prop := ∃ L', Bk w' p 120 L' ∧ Sc.Cells L' ∧ L'[0]? = some (.int .i64 3) ∧ Kp (k.bs p) w1 w'
theorem cells_of {L L0 : List Value} (hc : Sc.Cells L0) (hl : L.length = 52) (ho : ∀ j, rdOff j → j ≠ 19 → j ≠ 24 → j ≠ 25 → j ≠ 26 → L[j]? = L0[j]?) : Sc.Cells L := by
  have h := fun j (hj : j ≤ 10) => ho j (by unfold rdOff; omega) (by omega) (by omega) (by omega) (by omega)
  refine ⟨hl, ?_, ?_, ?_, ?_, ?_, ?_, ?_, ?_, ?_, ?_, ?_⟩
  · rw [h 0 (by omega)]; exact hc.c0
  · rw [h 1 (by omega)]; exact hc.c1
  · rw [h 2 (by omega)]; exact hc.c2
  · rw [h 3 (by omega)]; exact hc.c3
  · rw [h 4 (by omega)]; exact hc.c4
  · rw [h 5 (by omega)]; exact hc.c5
  · rw [h 6 (by omega)]; exact hc.c6
  · rw [h 7 (by omega)]; exact hc.c7
  · rw [h 8 (by omega)]; exact hc.c8
  · rw [h 9 (by omega)]; exact hc.c9
  · rw [h 10 (by omega)]; exact hc.c10
theorem At.fault {k : Kn} {p : Nat} {L0 : List Value} {c u col : Nat} {rest : List Int} {w1 w : World} (h : At k p L0 c u col rest w) (hc : Sc.Cells L0) (hk : Kp (k.bs p) w1 w) (x m : ByteArray) (s0 s1 s2 : Int) :
    Calls Tryd.prog 105 #[.pointer (some ⟨p, 0, none⟩), .string x, .agg #[.int .i64 s0, .int .i64 s1, .int .i64 s2], .string m] w fun e w' => e = .returned (.bool false) ∧ Er k p w1 w' := by
  obtain ⟨bp, bl, mi, ml, z, L, h1, h24, h25, h26, h19, m1, m2, m3, ho⟩ := h.ex
  refine (fault_any p x m s0 s1 s2 _ _ _ L w h1.pb (cells_of hc h1.plen ho) h24 h25 h26).mono ?_
  rintro e w' ⟨rfl, L', g1, g2, g3, g4⟩
  exact ⟨rfl, L', g1, g2, g3, hk.trans (g4.mono (by simp; exact k.mp p))⟩
theorem add_gave {k : Kn} {p lo : Nat} {w w0 w' : World} {v v' : Value} {l l' : List Int} (hrow : Row lo w v l) (hb : Below w.heap.size w w0) (hrow' : Row lo w' v' l') (hgrow : w0.grownBy w' v.ownBlock) (hgr : Grew w0 v v') : Gave k p lo v v' l' w w' ∧ ∃ ps, Kp ps w w' ∧ ∀ b ∈ ps, v.ownBlock = some b := by
  have hps : ∃ ps, Kp ps w w' ∧ ∀ b ∈ ps, v.ownBlock = some b := by
    cases ho : v.ownBlock with
    | none => exact ⟨[], (Kp.of_below hb).trans (grown_kp hgrow (fun b hb' => by rw [ho] at hb'; cases hb')), by simp⟩
    | some g => exact ⟨[g], (Kp.of_below hb).trans (grown_kp hgrow (fun b hb' => by rw [ho] at hb'; cases hb'; simp)), by simp⟩
  obtain ⟨ps, h1, h2⟩ := hps
  refine ⟨⟨hrow', ?_, ps, h1, fun b hb => .inr (h2 b hb)⟩, ps, h1, h2⟩
  rcases hgr with e | ⟨b, e1, e2⟩
  · exact .inl e
  · exact .inr ⟨b, e1, Nat.le_trans hb.size e2⟩
theorem below_alloc (w : World) (o : Obj) : Below w.heap.size w (w.alloc o) := (Below.refl _ _).alloc (Nat.le_refl _) _
/-- A row is emptied. -/
theorem _root_.Go.Proofs.YtocbbekciphjgaaDoor.Sc.Row.cut {lo : Nat} {w : World} {l : List Int} {g cap : Nat} (h : Row lo w (.slice (some ⟨g, 0, none⟩) l.length cap) l) : Row lo w (.slice (some ⟨g, 0, none⟩) 0 cap) [] := by
  obtain ⟨h1, ⟨h0, _⟩ | ⟨g', c, cur, he, h2, h3, h4, h5, h6, h7⟩⟩ := h
  · cases h0
  · cases he
    exact ⟨by simp, .inr ⟨g, cap, cur, rfl, h2, h3, Nat.zero_le _, h5, h6, by simp⟩⟩
end Go.Proofs.YtocbbekciphjgaaDoor.Qd
/- QxA -/
/- A block's and a sequence's post. -/
namespace Go.Proofs.YtocbbekciphjgaaDoor.Qd
open Go.RowKit Go.Proofs.YtocbbekciphjgaaDoor.Rdp Go.Proofs.YtocbbekciphjgaaDoor.Pa Go.Proofs.YtocbbekciphjgaaDoor.Sc
set_option linter.unusedVariables false
set_option linter.unusedSimpArgs false
theorem then_block (k : Nat) (K : Act → World → Prop) (Q : Exit → Act → World → Prop) : Exit.inBlock k (Exit.then K Q) = Exit.then K (Exit.inBlock k (Exit.then K Q)) := by
  funext e a w
  cases e <;> rfl
theorem then_self (Q : Exit → Act → World → Prop) : Exit.then (fun a w => Q .normal a w) Q = Q := by
  funext e a w
  cases e <;> rfl
end Go.Proofs.YtocbbekciphjgaaDoor.Qd
