/- Blocks that are known whole; utf8.ValidString by the library's contract; SetString: the walks. -/
import Derived.Test.YtdkhpngcomagnaaDoorSnC
import Derived.Ground.NamesProg
import Derived.WalkMore
import Derived.Shelf.Lay
import Derived.Shelf.Unicode.ValidAny
import Derived.Handy
import Derived.Deep.QuietTactic
import Derived.BigQuiet
namespace Go.Proofs.YtdkhpngcomagnaaDoor
open Go.RowKit Go.Shelf Go.Lib
shelf_lay Lays.n196 Nm 196 at Tryd as Tryd.laysValid
end Go.Proofs.YtdkhpngcomagnaaDoor
namespace Go.Proofs.YtdkhpngcomagnaaDoor.Sn
open Go.RowKit Go.Shelf
set_option linter.unusedVariables false
set_option linter.unusedSimpArgs false
def Tabs (w : World) : Prop := Lib.Utf8Tabs (Tryd.laysValid_ren.g 3) (Tryd.laysValid_ren.g 4) w
theorem valid_any (s : ByteArray) (w : World) (hs : s.size ≤ 9223372036854775807) (hT : Tabs w) : Calls Tryd.prog 8 #[.string s] w fun e w' => e = .returned (.bool (Lib.validD s.data.toList)) ∧ Below w.heap.size w w' :=
  Any.utf8_ValidString Tryd.laysValid s w hs hT
/-- But for these blocks, and new ones, nothing has turned. -/
structure Kp (ps : List Nat) (w w' : World) : Prop where
  os : w'.os = w.os
  tape : w'.tape = w.tape
  output : w'.output = w.output
  size : w.heap.size ≤ w'.heap.size
  block : ∀ k, k < w.heap.size → k ∉ ps → w'.heap[k]? = w.heap[k]?
theorem Kp.refl (ps : List Nat) (w : World) : Kp ps w w := ⟨rfl, rfl, rfl, Nat.le_refl _, fun _ _ _ => rfl⟩
theorem Kp.trans {ps : List Nat} {a b c : World} (h : Kp ps a b) (k : Kp ps b c) : Kp ps a c :=
  ⟨k.os.trans h.os, k.tape.trans h.tape, k.output.trans h.output, Nat.le_trans h.size k.size, fun i hi hp => (k.block i (by have := h.size; omega) hp).trans (h.block i hi hp)⟩
theorem Kp.mono {ps qs : List Nat} {a b : World} (h : Kp ps a b) (hs : ∀ k, k ∈ ps → k ∈ qs) : Kp qs a b := ⟨h.os, h.tape, h.output, h.size, fun k hk hq => h.block k hk fun hp => hq (hs k hp)⟩
theorem Kp.below {ps : List Nat} {B : Nat} {a b : World} (h : Kp ps a b) (hB : B ≤ a.heap.size) (hp : ∀ k ∈ ps, B ≤ k) : Below B a b :=
  ⟨h.os, h.tape, h.output, h.size, fun k hk => h.block k (by omega) fun hh => by have := hp k hh; omega⟩
theorem Kp.of_below {ps : List Nat} {a b : World} (h : Below a.heap.size a b) : Kp ps a b := ⟨h.os, h.tape, h.output, h.size, fun k hk _ => h.block k hk⟩
theorem Kp.drew {ps : List Nat} {a b : World} (h : Kp ps a b) : Kp ps a b.drew := ⟨h.os, h.tape, h.output, h.size, h.block⟩
theorem Kp.drewN {ps : List Nat} {a b : World} (h : Kp ps a b) (n : Nat) : Kp ps a (b.drewN n) := ⟨h.os, h.tape, h.output, h.size, h.block⟩
theorem Kp.alloc {ps : List Nat} {a b : World} (h : Kp ps a b) (o : Obj) : Kp ps a (b.alloc o) := h.trans (.of_below ((Below.refl _ _).alloc (Nat.le_refl _) _))
theorem Kp.setCell {ps : List Nat} {a b : World} (h : Kp ps a b) (p o : Nat) (v : Value) (hp : p ∈ ps) : Kp ps a (b.setCell ⟨p, o, none⟩ v) :=
  h.trans ⟨rfl, rfl, rfl, by simp [World.setCell], fun k hk hq => Below.heap_setCell _ _ _ _ fun e => hq (by rw [e]; exact hp)⟩
theorem Kp.cell {ps : List Nat} {a b : World} (h : Kp ps a b) {x : Addr} (hx : x.block < a.heap.size) (hp : x.block ∉ ps) : b.cell? x = a.cell? x := World.cell?_of_block (w := a) (h.block x.block hx hp)
theorem drewN_add (w : World) (a b : Nat) : (w.drewN a).drewN b = w.drewN (a + b) := by
  unfold World.drewN
  simp [Nat.add_assoc]
/-- A block that is known whole. -/
def Bk (w : World) (b : Nat) (t : TypeId) (L : List Value) : Prop := w.heap[b]? = some (.cells L.toArray t (0, 0))
theorem Bk.set {w : World} {b : Nat} {t : TypeId} {L : List Value} (h : Bk w b t L) (i : Nat) (v : Value) : Bk (w.setCell ⟨b, i, none⟩ v) b t (L.set i v) := by
  unfold Bk at *
  unfold World.setCell
  simp [Array.getElem?_modify, h]
theorem Bk.other {w : World} {b : Nat} {t : TypeId} {L : List Value} (h : Bk w b t L) (p i : Nat) (v : Value) (hp : b ≠ p) : Bk (w.setCell ⟨p, i, none⟩ v) b t L := (Below.heap_setCell w ⟨p, i, none⟩ v b hp).trans h
theorem Bk.cell {w : World} {b : Nat} {t : TypeId} {L : List Value} (h : Bk w b t L) (i : Nat) : w.cell? ⟨b, i, none⟩ = L[i]? ∧ w.frozen? ⟨b, i, none⟩ = false := by
  unfold Bk at h
  unfold World.cell? World.frozen?
  rw [h]
  simp
theorem Bk.lt {w : World} {b : Nat} {t : TypeId} {L : List Value} (h : Bk w b t L) : b < w.heap.size := (Array.getElem?_eq_some_iff.1 h).1
theorem Bk.kp {w w' : World} {b : Nat} {t : TypeId} {L : List Value} {ps : List Nat} (h : Bk w b t L) (hk : Kp ps w w') (hb : b ∉ ps) : Bk w' b t L := (hk.block b h.lt hb).trans h
theorem Bk.drewN {w : World} {b : Nat} {t : TypeId} {L : List Value} (h : Bk w b t L) (n : Nat) : Bk (w.drewN n) b t L := h
theorem Bk.drew {w : World} {b : Nat} {t : TypeId} {L : List Value} (h : Bk w b t L) : Bk w.drew b t L := h
theorem Bk.alloc {w : World} {b : Nat} {t : TypeId} {L : List Value} (h : Bk w b t L) (o : Obj) : Bk (w.alloc o) b t L := h.kp ((Kp.refl [] w).alloc o) (by simp)
theorem Bk.new (w : World) (L : List Value) (t : TypeId) : Bk (w.alloc (.cells L.toArray t)) w.heap.size t L := by
  show (w.heap.push _)[w.heap.size]? = _
  simp
theorem at_ {w : World} {b : Nat} {t : TypeId} {L : List Value} (h : Bk w b t L) (i : Nat) {v : Value} (hi : L[i]? = some v) : w.cell? ⟨b, i, none⟩ = some v ∧ w.frozen? ⟨b, i, none⟩ = false := by
  obtain ⟨h1, h2⟩ := h.cell i
  exact ⟨h1.trans hi, h2⟩
/-- A node of the package, in memory. -/
def nod (k st : Int) (tag val : ByteArray) : List Value := [.int .u32 k, .int .u32 st, .string tag, .string val, .string ⟨#[]⟩, .pointer none, .slice none 0 0, .string ⟨#[]⟩, .string ⟨#[]⟩, .string ⟨#[]⟩, .int .i64 0, .int .i64 0]
set_option maxHeartbeats 4000000 in
set_option maxRecDepth 100000 in
theorem set_any (s : ByteArray) (b : Nat) (w : World) (hs : s.size ≤ 1200) (hv : Lib.validD s.data.toList = true) (hT : Tabs w) (hb : Bk w b 35 (nod 0 0 ⟨#[]⟩ ⟨#[]⟩)) (hTk : ∀ w', Kp [b] w w' → Tabs w') :
    Calls Tryd.prog 6 #[.pointer (some ⟨b, 0, none⟩), .string s] w fun e w' => e = .returned (.tuple #[]) ∧ Bk w' b 35 (nod 8 (if fed s s.size then 8 else 0) ⟨#[33, 33, 115, 116, 114]⟩ s) ∧ Kp [b] w w' := by
  obtain ⟨c0, f0⟩ := at_ hb 0 rfl
  obtain ⟨fb, hfb⟩ : ∃ x, fed s s.size = x := ⟨_, rfl⟩
  rw [hfb]
  have HB := Lib.hid hb
  have HT := Lib.hid hTk
  have HV := Lib.hid hv
  have HFB := Lib.hid hfb
  clear hb hTk hT hv hfb
  go_enter Tryd.func6, Tryd.ntmps6
  go_wp2_with fail
  obtain ⟨w1, HW1⟩ : ∃ w1 : World, Hid (w.setCell ⟨b, 0, none⟩ (.int .u32 8) = w1) := ⟨_, rfl⟩
  rw [HW1.out]
  have hk1 : Kp [b] w w1 := by rw [← HW1.out]; exact (Kp.refl _ _).setCell b 0 _ (by simp)
  have hb1 : Bk w1 b 35 (nod 8 0 ⟨#[]⟩ ⟨#[]⟩) := by rw [← HW1.out]; exact HB.out.set 0 _
  refine (valid_any s w1 (by omega) (HT.out w1 hk1)).mono ?_
  rintro e w2 ⟨rfl, hbel⟩
  have hk2 : Kp [b] w w2 := hk1.trans (Kp.of_below hbel)
  have hb2 := hb1.kp (Kp.of_below (ps := []) hbel) (by simp)
  rw [HV.out]
  obtain ⟨c3, f3⟩ := at_ hb2 3 rfl
  obtain ⟨c2, f2⟩ := at_ hb2 2 rfl
  have HB2 := Lib.hid hb2
  have HK2 := Lib.hid hk2
  clear hk1 hb1 hk2 hb2 hbel c0 f0 HW1
  go_upto_region 6 with fail
  obtain ⟨w3, HW3⟩ : ∃ w3 : World, Hid ((w2.setCell ⟨b, 3, none⟩ (.string s)).setCell ⟨b, 2, none⟩ (.string ⟨#[33, 33, 115, 116, 114]⟩) = w3) := ⟨_, rfl⟩
  rw [HW3.out]
  have hk3 : Kp [b] w w3 := by rw [← HW3.out]; exact (HK2.out.setCell b 3 _ (by simp)).setCell b 2 _ (by simp)
  have hb3 : Bk w3 b 35 (nod 8 0 ⟨#[33, 33, 115, 116, 114]⟩ s) := by rw [← HW3.out]; exact (HB2.out.set 3 _).set 2 _
  clear c3 f3 c2 f2 HW3
  obtain ⟨c3, f3⟩ := at_ hb3 3 rfl
  obtain ⟨c1, f1⟩ := at_ hb3 1 rfl
  have hc := contains_any s w3 (by omega)
  rw [HFB.out] at hc
  have HC := Lib.hid hc
  have HB3 := Lib.hid hb3
  have HK3 := Lib.hid hk3
  clear hb3 hk3 hc
  go_wp2_with fail
  refine HC.out.mono ?_
  rintro e w4 ⟨rfl, rfl⟩
  cases fb with
  | false =>
    go_wp2_with fail
    go_end0
    exact ⟨rfl, HB3.out, HK3.out⟩
  | true =>
    go_wp2_with fail
    go_end0
    exact ⟨rfl, HB3.out.set 1 _, HK3.out.setCell b 1 _ (by simp)⟩
end Go.Proofs.YtdkhpngcomagnaaDoor.Sn
