/- The reference's look at a text (spec.Rows, spec.Row): walked. -/
import Derived.Test.YtcmnjnogdpejfaaDoorLnB
import Derived.Ground.NamesProg
import Derived.WalkMore
import Derived.Shelf.Lay
import Derived.Shelf.Unicode.ValidAny
import Derived.Handy
import Derived.Deep.QuietTactic
import Derived.BigQuiet
import Derived.BigGuard
import Derived.BigCall
import Derived.Deep.LoopGhost
namespace Go.Proofs.YtcmnjnogdpejfaaDoor
open Go.RowKit Go.Shelf Go.Lib
shelf_lay Lays.n196 Nm 196 at Tryd as Tryd.laysValid
end Go.Proofs.YtcmnjnogdpejfaaDoor
namespace Go.Proofs.YtcmnjnogdpejfaaDoor.Ln
open Go.RowKit Go.Shelf
set_option linter.unusedVariables false
set_option linter.unusedSimpArgs false
def Tabs (w : World) : Prop := Lib.Utf8Tabs (Tryd.laysValid_ren.g 3) (Tryd.laysValid_ren.g 4) w
theorem valid_any (s : ByteArray) (w : World) (hs : s.size ≤ 9223372036854775807) (hT : Tabs w) : Calls Tryd.prog 12 #[.string s] w fun e w' => e = .returned (.bool (Lib.validD s.data.toList)) ∧ Below w.heap.size w w' :=
  Any.utf8_ValidString Tryd.laysValid s w hs hT
/-- But for these blocks, and new ones, nothing has turned. -/
structure Kp (ps : List Nat) (w w' : World) : Prop where
  os : w'.os = w.os
  tape : w'.tape = w.tape
  output : w'.output = w.output
  size : w.heap.size ≤ w'.heap.size
  block : ∀ k, k < w.heap.size → k ∉ ps → w'.heap[k]? = w.heap[k]?
theorem Kp.refl (ps : List Nat) (w : World) : Kp ps w w := ⟨rfl, rfl, rfl, Nat.le_refl _, fun _ _ _ => rfl⟩
theorem Kp.trans {ps : List Nat} {a b c : World} (h : Kp ps a b) (k : Kp ps b c) : Kp ps a c :=
  ⟨k.os.trans h.os, k.tape.trans h.tape, k.output.trans h.output, Nat.le_trans h.size k.size, fun i hi hp => (k.block i (by have := h.size; omega) hp).trans (h.block i hi hp)⟩
theorem Kp.mono {ps qs : List Nat} {a b : World} (h : Kp ps a b) (hs : ∀ k, k ∈ ps → k ∈ qs) : Kp qs a b := ⟨h.os, h.tape, h.output, h.size, fun k hk hq => h.block k hk fun hp => hq (hs k hp)⟩
theorem Kp.below {ps : List Nat} {B : Nat} {a b : World} (h : Kp ps a b) (hB : B ≤ a.heap.size) (hp : ∀ k ∈ ps, B ≤ k) : Below B a b :=
  ⟨h.os, h.tape, h.output, h.size, fun k hk => h.block k (by omega) fun hh => by have := hp k hh; omega⟩
theorem Kp.of_below {ps : List Nat} {a b : World} (h : Below a.heap.size a b) : Kp ps a b := ⟨h.os, h.tape, h.output, h.size, fun k hk _ => h.block k hk⟩
theorem Kp.drew {ps : List Nat} {a b : World} (h : Kp ps a b) : Kp ps a b.drew := ⟨h.os, h.tape, h.output, h.size, h.block⟩
theorem Kp.drewN {ps : List Nat} {a b : World} (h : Kp ps a b) (n : Nat) : Kp ps a (b.drewN n) := ⟨h.os, h.tape, h.output, h.size, h.block⟩
theorem Kp.alloc {ps : List Nat} {a b : World} (h : Kp ps a b) (o : Obj) : Kp ps a (b.alloc o) := h.trans (.of_below ((Below.refl _ _).alloc (Nat.le_refl _) _))
theorem Kp.setCell {ps : List Nat} {a b : World} (h : Kp ps a b) (p o : Nat) (v : Value) (hp : p ∈ ps) : Kp ps a (b.setCell ⟨p, o, none⟩ v) :=
  h.trans ⟨rfl, rfl, rfl, by simp [World.setCell], fun k hk hq => Below.heap_setCell _ _ _ _ fun e => hq (by rw [e]; exact hp)⟩
theorem Kp.cell {ps : List Nat} {a b : World} (h : Kp ps a b) {x : Addr} (hx : x.block < a.heap.size) (hp : x.block ∉ ps) : b.cell? x = a.cell? x := World.cell?_of_block (w := a) (h.block x.block hx hp)
theorem drewN_add (w : World) (a b : Nat) : (w.drewN a).drewN b = w.drewN (a + b) := by
  unfold World.drewN
  simp [Nat.add_assoc]
/-- A block that is known whole. -/
def Bk (w : World) (b : Nat) (t : TypeId) (L : List Value) : Prop := w.heap[b]? = some (.cells L.toArray t (0, 0))
theorem Bk.set {w : World} {b : Nat} {t : TypeId} {L : List Value} (h : Bk w b t L) (i : Nat) (v : Value) : Bk (w.setCell ⟨b, i, none⟩ v) b t (L.set i v) := by
  unfold Bk at *
  unfold World.setCell
  simp [Array.getElem?_modify, h]
theorem Bk.other {w : World} {b : Nat} {t : TypeId} {L : List Value} (h : Bk w b t L) (p i : Nat) (v : Value) (hp : b ≠ p) : Bk (w.setCell ⟨p, i, none⟩ v) b t L := (Below.heap_setCell w ⟨p, i, none⟩ v b hp).trans h
theorem Bk.cell {w : World} {b : Nat} {t : TypeId} {L : List Value} (h : Bk w b t L) (i : Nat) : w.cell? ⟨b, i, none⟩ = L[i]? ∧ w.frozen? ⟨b, i, none⟩ = false := by
  unfold Bk at h
  unfold World.cell? World.frozen?
  rw [h]
  simp
theorem Bk.lt {w : World} {b : Nat} {t : TypeId} {L : List Value} (h : Bk w b t L) : b < w.heap.size := (Array.getElem?_eq_some_iff.1 h).1
theorem Bk.kp {w w' : World} {b : Nat} {t : TypeId} {L : List Value} {ps : List Nat} (h : Bk w b t L) (hk : Kp ps w w') (hb : b ∉ ps) : Bk w' b t L := (hk.block b h.lt hb).trans h
theorem Bk.drewN {w : World} {b : Nat} {t : TypeId} {L : List Value} (h : Bk w b t L) (n : Nat) : Bk (w.drewN n) b t L := h
theorem Bk.drew {w : World} {b : Nat} {t : TypeId} {L : List Value} (h : Bk w b t L) : Bk w.drew b t L := h
theorem Bk.alloc {w : World} {b : Nat} {t : TypeId} {L : List Value} (h : Bk w b t L) (o : Obj) : Bk (w.alloc o) b t L := h.kp ((Kp.refl [] w).alloc o) (by simp)
theorem Bk.new (w : World) (L : List Value) (t : TypeId) : Bk (w.alloc (.cells L.toArray t)) w.heap.size t L := by
  show (w.heap.push _)[w.heap.size]? = _
  simp
theorem at_ {w : World} {b : Nat} {t : TypeId} {L : List Value} (h : Bk w b t L) (i : Nat) {v : Value} (hi : L[i]? = some v) : w.cell? ⟨b, i, none⟩ = some v ∧ w.frozen? ⟨b, i, none⟩ = false := by
  obtain ⟨h1, h2⟩ := h.cell i
  exact ⟨h1.trans hi, h2⟩

set_option maxHeartbeats 4000000 in
set_option maxRecDepth 100000 in
theorem content_any (c : Int) (h0 : 0 ≤ c) (h1 : c ≤ 2147483647) (w : World) : Calls Tryd.prog 13 #[.int .i32 c] w fun e w' => e = .returned (.bool (ct c)) ∧ w' = w := by
  obtain ⟨b1, e1⟩ : ∃ b, (c == 9) = b := ⟨_, rfl⟩
  obtain ⟨b2, e2⟩ : ∃ b, decide (32 ≤ c) = b := ⟨_, rfl⟩
  obtain ⟨b2a, e2a⟩ : ∃ b, decide (c ≤ 126) = b := ⟨_, rfl⟩
  obtain ⟨b2b, e2b⟩ : ∃ b, decide (160 ≤ c) = b := ⟨_, rfl⟩
  obtain ⟨b3, e3⟩ : ∃ b, decide (c ≤ 55295) = b := ⟨_, rfl⟩
  obtain ⟨b4, e4⟩ : ∃ b, (c != 8232) = b := ⟨_, rfl⟩
  obtain ⟨b5, e5⟩ : ∃ b, (c != 8233) = b := ⟨_, rfl⟩
  obtain ⟨b6, e6⟩ : ∃ b, decide (57344 ≤ c) = b := ⟨_, rfl⟩
  obtain ⟨b7, e7⟩ : ∃ b, decide (c ≤ 65533) = b := ⟨_, rfl⟩
  obtain ⟨ba, ea⟩ : ∃ b, (c != 65279) = b := ⟨_, rfl⟩
  obtain ⟨b8, e8⟩ : ∃ b, decide (65536 ≤ c) = b := ⟨_, rfl⟩
  obtain ⟨b9, e9⟩ : ∃ b, decide (c ≤ 1114111) = b := ⟨_, rfl⟩
  have hr : ct c = (if (b1 || (b2 && b2a) || (b2b && b3)) then (b4 && b5) else if (b6 && b7) then ba else (b8 && b9)) := by
    subst e1 e2 e2a e2b e3 e4 e5 e6 e7 ea e8 e9
    unfold ct
    simp only [Bool.or_eq_true, Bool.and_eq_true, decide_eq_true_eq, beq_iff_eq, or_assoc]
    repeat' split
    all_goals (rw [Bool.eq_iff_iff]; simp)
  rw [hr]
  clear hr h0 h1
  cases b1
  · cases b2
    · cases b2b
      · cases b6
        · cases b8
          · go_enter Tryd.func13, Tryd.ntmps13
            go_wp2_with fail
            go_ret
            exact ⟨rfl, rfl⟩
          · cases b9
            · go_enter Tryd.func13, Tryd.ntmps13
              go_wp2_with fail
              go_ret
              exact ⟨rfl, rfl⟩
            · go_enter Tryd.func13, Tryd.ntmps13
              go_wp2_with fail
              go_ret
              exact ⟨rfl, rfl⟩
        · cases b7
          · cases b8
            · go_enter Tryd.func13, Tryd.ntmps13
              go_wp2_with fail
              go_ret
              exact ⟨rfl, rfl⟩
            · cases b9
              · go_enter Tryd.func13, Tryd.ntmps13
                go_wp2_with fail
                go_ret
                exact ⟨rfl, rfl⟩
              · go_enter Tryd.func13, Tryd.ntmps13
                go_wp2_with fail
                go_ret
                exact ⟨rfl, rfl⟩
          · cases ba
            · go_enter Tryd.func13, Tryd.ntmps13
              go_wp2_with fail
              go_ret
              exact ⟨rfl, rfl⟩
            · go_enter Tryd.func13, Tryd.ntmps13
              go_wp2_with fail
              go_ret
              exact ⟨rfl, rfl⟩
      · cases b3
        · cases b6
          · cases b8
            · go_enter Tryd.func13, Tryd.ntmps13
              go_wp2_with fail
              go_ret
              exact ⟨rfl, rfl⟩
            · cases b9
              · go_enter Tryd.func13, Tryd.ntmps13
                go_wp2_with fail
                go_ret
                exact ⟨rfl, rfl⟩
              · go_enter Tryd.func13, Tryd.ntmps13
                go_wp2_with fail
                go_ret
                exact ⟨rfl, rfl⟩
          · cases b7
            · cases b8
              · go_enter Tryd.func13, Tryd.ntmps13
                go_wp2_with fail
                go_ret
                exact ⟨rfl, rfl⟩
              · cases b9
                · go_enter Tryd.func13, Tryd.ntmps13
                  go_wp2_with fail
                  go_ret
                  exact ⟨rfl, rfl⟩
                · go_enter Tryd.func13, Tryd.ntmps13
                  go_wp2_with fail
                  go_ret
                  exact ⟨rfl, rfl⟩
            · cases ba
              · go_enter Tryd.func13, Tryd.ntmps13
                go_wp2_with fail
                go_ret
                exact ⟨rfl, rfl⟩
              · go_enter Tryd.func13, Tryd.ntmps13
                go_wp2_with fail
                go_ret
                exact ⟨rfl, rfl⟩
        · cases b4
          · cases b5
            · go_enter Tryd.func13, Tryd.ntmps13
              go_wp2_with fail
              go_ret
              exact ⟨rfl, rfl⟩
            · go_enter Tryd.func13, Tryd.ntmps13
              go_wp2_with fail
              go_ret
              exact ⟨rfl, rfl⟩
          · go_enter Tryd.func13, Tryd.ntmps13
            go_wp2_with fail
            go_ret
            exact ⟨rfl, rfl⟩
    · cases b2a
      · cases b2b
        · cases b6
          · cases b8
            · go_enter Tryd.func13, Tryd.ntmps13
              go_wp2_with fail
              go_ret
              exact ⟨rfl, rfl⟩
            · cases b9
              · go_enter Tryd.func13, Tryd.ntmps13
                go_wp2_with fail
                go_ret
                exact ⟨rfl, rfl⟩
              · go_enter Tryd.func13, Tryd.ntmps13
                go_wp2_with fail
                go_ret
                exact ⟨rfl, rfl⟩
          · cases b7
            · cases b8
              · go_enter Tryd.func13, Tryd.ntmps13
                go_wp2_with fail
                go_ret
                exact ⟨rfl, rfl⟩
              · cases b9
                · go_enter Tryd.func13, Tryd.ntmps13
                  go_wp2_with fail
                  go_ret
                  exact ⟨rfl, rfl⟩
                · go_enter Tryd.func13, Tryd.ntmps13
                  go_wp2_with fail
                  go_ret
                  exact ⟨rfl, rfl⟩
            · cases ba
              · go_enter Tryd.func13, Tryd.ntmps13
                go_wp2_with fail
                go_ret
                exact ⟨rfl, rfl⟩
              · go_enter Tryd.func13, Tryd.ntmps13
                go_wp2_with fail
                go_ret
                exact ⟨rfl, rfl⟩
        · cases b3
          · cases b6
            · cases b8
              · go_enter Tryd.func13, Tryd.ntmps13
                go_wp2_with fail
                go_ret
                exact ⟨rfl, rfl⟩
              · cases b9
                · go_enter Tryd.func13, Tryd.ntmps13
                  go_wp2_with fail
                  go_ret
                  exact ⟨rfl, rfl⟩
                · go_enter Tryd.func13, Tryd.ntmps13
                  go_wp2_with fail
                  go_ret
                  exact ⟨rfl, rfl⟩
            · cases b7
              · cases b8
                · go_enter Tryd.func13, Tryd.ntmps13
                  go_wp2_with fail
                  go_ret
                  exact ⟨rfl, rfl⟩
                · cases b9
                  · go_enter Tryd.func13, Tryd.ntmps13
                    go_wp2_with fail
                    go_ret
                    exact ⟨rfl, rfl⟩
                  · go_enter Tryd.func13, Tryd.ntmps13
                    go_wp2_with fail
                    go_ret
                    exact ⟨rfl, rfl⟩
              · cases ba
                · go_enter Tryd.func13, Tryd.ntmps13
                  go_wp2_with fail
                  go_ret
                  exact ⟨rfl, rfl⟩
                · go_enter Tryd.func13, Tryd.ntmps13
                  go_wp2_with fail
                  go_ret
                  exact ⟨rfl, rfl⟩
          · cases b4
            · cases b5
              · go_enter Tryd.func13, Tryd.ntmps13
                go_wp2_with fail
                go_ret
                exact ⟨rfl, rfl⟩
              · go_enter Tryd.func13, Tryd.ntmps13
                go_wp2_with fail
                go_ret
                exact ⟨rfl, rfl⟩
            · go_enter Tryd.func13, Tryd.ntmps13
              go_wp2_with fail
              go_ret
              exact ⟨rfl, rfl⟩
      · cases b4
        · cases b5
          · go_enter Tryd.func13, Tryd.ntmps13
            go_wp2_with fail
            go_ret
            exact ⟨rfl, rfl⟩
          · go_enter Tryd.func13, Tryd.ntmps13
            go_wp2_with fail
            go_ret
            exact ⟨rfl, rfl⟩
        · go_enter Tryd.func13, Tryd.ntmps13
          go_wp2_with fail
          go_ret
          exact ⟨rfl, rfl⟩
  · cases b4
    · cases b5
      · go_enter Tryd.func13, Tryd.ntmps13
        go_wp2_with fail
        go_ret
        exact ⟨rfl, rfl⟩
      · go_enter Tryd.func13, Tryd.ntmps13
        go_wp2_with fail
        go_ret
        exact ⟨rfl, rfl⟩
    · go_enter Tryd.func13, Tryd.ntmps13
      go_wp2_with fail
      go_ret
      exact ⟨rfl, rfl⟩

end Go.Proofs.YtcmnjnogdpejfaaDoor.Ln
