/- What the resolver says of a number's text (resolve): walked, with its deferred closure. -/
import Derived.Test.YtpdfamigmkeflaaDoorRiD
import Derived.Test.YtpdfamigmkeflaaDoorRiF
import Derived.Test.YtpdfamigmkeflaaDoorRiG
import Derived.Defers
import Derived.Recover
import Derived.Tactics2
import Derived.Deep.Cut
import Derived.Handy
import Derived.BigFrame
import Derived.Deep.QuietTactic
import Derived.BigQuiet
namespace Go.Proofs.YtpdfamigmkeflaaDoor.Ri
open Go.RowKit
set_option linter.unusedVariables false
set_option linter.unusedSimpArgs false
/-- But for these blocks, and new ones, nothing has turned. -/
structure Kp (ps : List Nat) (w w' : World) : Prop where
  os : w'.os = w.os
  tape : w'.tape = w.tape
  output : w'.output = w.output
  size : w.heap.size ≤ w'.heap.size
  block : ∀ k, k < w.heap.size → k ∉ ps → w'.heap[k]? = w.heap[k]?
theorem Kp.refl (ps : List Nat) (w : World) : Kp ps w w := ⟨rfl, rfl, rfl, Nat.le_refl _, fun _ _ _ => rfl⟩
theorem Kp.trans {ps : List Nat} {a b c : World} (h : Kp ps a b) (k : Kp ps b c) : Kp ps a c :=
  ⟨k.os.trans h.os, k.tape.trans h.tape, k.output.trans h.output, Nat.le_trans h.size k.size, fun i hi hp => (k.block i (by have := h.size; omega) hp).trans (h.block i hi hp)⟩
theorem Kp.mono {ps qs : List Nat} {a b : World} (h : Kp ps a b) (hs : ∀ k, k ∈ ps → k ∈ qs) : Kp qs a b := ⟨h.os, h.tape, h.output, h.size, fun k hk hq => h.block k hk fun hp => hq (hs k hp)⟩
theorem Kp.below {ps : List Nat} {B : Nat} {a b : World} (h : Kp ps a b) (hB : B ≤ a.heap.size) (hp : ∀ k ∈ ps, B ≤ k) : Below B a b :=
  ⟨h.os, h.tape, h.output, h.size, fun k hk => h.block k (by omega) fun hh => by have := hp k hh; omega⟩
theorem Kp.of_below {ps : List Nat} {a b : World} (h : Below a.heap.size a b) : Kp ps a b := ⟨h.os, h.tape, h.output, h.size, fun k hk _ => h.block k hk⟩
theorem Kp.drew {ps : List Nat} {a b : World} (h : Kp ps a b) : Kp ps a b.drew := ⟨h.os, h.tape, h.output, h.size, h.block⟩
theorem Kp.drewN {ps : List Nat} {a b : World} (h : Kp ps a b) (n : Nat) : Kp ps a (b.drewN n) := ⟨h.os, h.tape, h.output, h.size, h.block⟩
theorem Kp.alloc {ps : List Nat} {a b : World} (h : Kp ps a b) (o : Obj) : Kp ps a (b.alloc o) := h.trans (.of_below ((Below.refl _ _).alloc (Nat.le_refl _) _))
theorem Kp.setCell {ps : List Nat} {a b : World} (h : Kp ps a b) (p o : Nat) (v : Value) (hp : p ∈ ps) : Kp ps a (b.setCell ⟨p, o, none⟩ v) :=
  h.trans ⟨rfl, rfl, rfl, by simp [World.setCell], fun k hk hq => Below.heap_setCell _ _ _ _ fun e => hq (by rw [e]; exact hp)⟩
theorem Kp.cell {ps : List Nat} {a b : World} (h : Kp ps a b) {x : Addr} (hx : x.block < a.heap.size) (hp : x.block ∉ ps) : b.cell? x = a.cell? x := World.cell?_of_block (w := a) (h.block x.block hx hp)
theorem drewN_add (w : World) (a b : Nat) : (w.drewN a).drewN b = w.drewN (a + b) := by
  unfold World.drewN
  simp [Nat.add_assoc]
/-- A block that is known whole. -/
def Bk (w : World) (b : Nat) (t : TypeId) (L : List Value) : Prop := w.heap[b]? = some (.cells L.toArray t (0, 0))
theorem Bk.set {w : World} {b : Nat} {t : TypeId} {L : List Value} (h : Bk w b t L) (i : Nat) (v : Value) : Bk (w.setCell ⟨b, i, none⟩ v) b t (L.set i v) := by
  unfold Bk at *
  unfold World.setCell
  simp [Array.getElem?_modify, h]
theorem Bk.other {w : World} {b : Nat} {t : TypeId} {L : List Value} (h : Bk w b t L) (p i : Nat) (v : Value) (hp : b ≠ p) : Bk (w.setCell ⟨p, i, none⟩ v) b t L := (Below.heap_setCell w ⟨p, i, none⟩ v b hp).trans h
theorem Bk.cell {w : World} {b : Nat} {t : TypeId} {L : List Value} (h : Bk w b t L) (i : Nat) : w.cell? ⟨b, i, none⟩ = L[i]? ∧ w.frozen? ⟨b, i, none⟩ = false := by
  unfold Bk at h
  unfold World.cell? World.frozen?
  rw [h]
  simp
theorem Bk.lt {w : World} {b : Nat} {t : TypeId} {L : List Value} (h : Bk w b t L) : b < w.heap.size := (Array.getElem?_eq_some_iff.1 h).1
theorem Bk.kp {w w' : World} {b : Nat} {t : TypeId} {L : List Value} {ps : List Nat} (h : Bk w b t L) (hk : Kp ps w w') (hb : b ∉ ps) : Bk w' b t L := (hk.block b h.lt hb).trans h
theorem Bk.drewN {w : World} {b : Nat} {t : TypeId} {L : List Value} (h : Bk w b t L) (n : Nat) : Bk (w.drewN n) b t L := h
theorem Bk.drew {w : World} {b : Nat} {t : TypeId} {L : List Value} (h : Bk w b t L) : Bk w.drew b t L := h
theorem Bk.alloc {w : World} {b : Nat} {t : TypeId} {L : List Value} (h : Bk w b t L) (o : Obj) : Bk (w.alloc o) b t L := h.kp ((Kp.refl [] w).alloc o) (by simp)
theorem Bk.new (w : World) (L : List Value) (t : TypeId) : Bk (w.alloc (.cells L.toArray t)) w.heap.size t L := by
  show (w.heap.push _)[w.heap.size]? = _
  simp
theorem at_ {w : World} {b : Nat} {t : TypeId} {L : List Value} (h : Bk w b t L) (i : Nat) {v : Value} (hi : L[i]? = some v) : w.cell? ⟨b, i, none⟩ = some v ∧ w.frozen? ⟨b, i, none⟩ = false := by
  obtain ⟨h1, h2⟩ := h.cell i
  exact ⟨h1.trans hi, h2⟩
theorem done_idle (pt pr po : Addr) (w : World) (hc : w.cell? pt = some (.string ⟨#[]⟩)) :
    CallsD Tryd.prog 24 #[.pointer (some pt), .pointer (some pr), .pointer (some po)] .returning w fun e u' w' => u' = .returning ∧ (e = .returned (.tuple #[]) ∧ w' = w) := by
  have he : ((⟨#[]⟩ : ByteArray).toList).isEmpty = true := by rw [Lib.toList_data]; rfl
  go_enter_d Tryd.func24, Tryd.ntmps24
  go_wp2_with fail
  refine bodyPost_ret (v := .tuple #[]) (by simp [results, Tryd.results24]) rfl ⟨rfl, rfl⟩
set_option maxHeartbeats 4000000 in
set_option maxRecDepth 100000 in
theorem resolve_any (l : List UInt8) (V : Int) (x h : Int) (w : World) (hw : Nw l) (h2 : l.length ≤ 1000) (hno : ∀ c ∈ l, c.toNat ≠ 95) (hx : ((l[0]'(by cases l with | nil => exact absurd rfl (nw_ne hw) | cons a b => simp)).toNat : Int) = x)
    (hh : (43 = x ∨ 45 = x) ∧ h = 83 ∨ (48 ≤ x ∧ x ≤ 57) ∧ h = 68) (hV : PI l V) :
    Calls Tryd.prog 16 #[.string ⟨#[]⟩, .string (S l)] w fun e w' => e = .returned (.tuple #[.string ⟨#[33, 33, 105, 110, 116]⟩, .iface 3 (.int .i64 V)]) ∧ Below w.heap.size w w' := by
  have hmf : ∀ (fn : Fn) (first cap : Array Value) (w : World), (Instr.makeFunc fn first cap).run Tryd.prog w = .ok (.func fn first cap) w := fun _ _ _ _ => rfl
  have h1 : 1 ≤ l.length := by cases l with | nil => exact absurd rfl (nw_ne hw) | cons a b => simp
  have hsz := S_size l
  have hg0 : (((S l)[0]'(by rw [hsz]; omega)).toNat : Int) = x := by rw [S_get l 0 (by omega)]; exact hx
  have hemp : (S l).toList.isEmpty = false := S_ne l h1
  have htab : ∀ w, Calls Tryd.prog 26 #[.int .u8 x] w fun e w' => e = .returned (.int .u8 h) ∧ w' = w := fun w => by
    rcases hh with ⟨hh, rfl⟩ | ⟨hh, rfl⟩
    · exact table_sign x (hh.imp Eq.symm Eq.symm) w
    · exact table_digit x hh w
  have HT := Lib.hid htab
  have HS := Lib.hid (fun w => short_nil w)
  have HR := Lib.hid (fun w => resolvable_nil w)
  have HM := Lib.hid (fun w => map_any l hw w)
  have HW := Lib.hid (fun w => without_any l w h1 h2 hno)
  have HP := Lib.hid (fun w => parse_any l V hV w)
  clear htab hV
  go_enter_defers Tryd.func16, Tryd.ntmps16
  try simp only [List.append]
  go_wp2_with fail
  obtain ⟨nb, HNB⟩ : ∃ nb, Hid (w.heap.size = nb) := ⟨_, rfl⟩
  obtain ⟨w1, HW1⟩ : ∃ w1 : World, Hid (((w.alloc (Obj.cells #[Value.string ⟨#[]⟩] 9)).alloc (Obj.cells #[Value.string ⟨#[]⟩] 9)).alloc (Obj.cells #[Value.nilIface] 20) = w1) := ⟨_, rfl⟩
  have hk1 : Below nb w w1 := by rw [← HNB.out, ← HW1.out]; exact (((Below.refl _ _).alloc (Nat.le_refl _) _).alloc (by simp) _).alloc (by simp; omega) _
  have ha1 : Bk w1 nb 9 [.string ⟨#[]⟩] := by rw [← HNB.out, ← HW1.out]; exact ((Bk.new w [.string ⟨#[]⟩] 9).alloc _).alloc _
  have hb1 : Bk w1 (nb + 1) 9 [.string ⟨#[]⟩] := by
    have h := Bk.new (w.alloc (Obj.cells #[Value.string ⟨#[]⟩] 9)) [.string ⟨#[]⟩] 9
    rw [World.size_alloc] at h
    rw [← HNB.out, ← HW1.out]
    exact h.alloc _
  have hc1 : Bk w1 (nb + 1 + 1) 20 [.nilIface] := by
    have h := Bk.new ((w.alloc (Obj.cells #[Value.string ⟨#[]⟩] 9)).alloc (Obj.cells #[Value.string ⟨#[]⟩] 9)) [.nilIface] 20
    rw [World.size_alloc, World.size_alloc] at h
    rw [← HNB.out, ← HW1.out]
    exact h
  rw [HW1.out, HNB.out]
  obtain ⟨q0, z0⟩ := at_ ha1 0 rfl
  have HA1 := Lib.hid ha1
  have HB1 := Lib.hid hb1
  have HC1 := Lib.hid hc1
  have HK1 := Lib.hid hk1
  clear ha1 hb1 hc1 hk1
  refine (HS.out _).mono ?_
  rintro e w1' ⟨rfl, rfl⟩
  go_upto_region 2 with fail
  obtain ⟨w2, HW2⟩ : ∃ w2 : World, Hid (w1'.setCell ⟨nb, 0, none⟩ (.string ⟨#[]⟩) = w2) := ⟨_, rfl⟩
  rw [HW2.out]
  have hk2 : Below nb w w2 := by rw [← HW2.out]; exact HK1.out.setCell (Nat.le_refl _) _
  have ha2 : Bk w2 nb 9 [.string ⟨#[]⟩] := by rw [← HW2.out]; exact HA1.out.set 0 _
  have hb2 : Bk w2 (nb + 1) 9 [.string ⟨#[]⟩] := by rw [← HW2.out]; exact HB1.out.other nb 0 _ (by omega)
  have hc2 : Bk w2 (nb + 1 + 1) 20 [.nilIface] := by rw [← HW2.out]; exact HC1.out.other nb 0 _ (by omega)
  clear q0 z0 HW2
  obtain ⟨q0, z0⟩ := at_ ha2 0 rfl
  have HA2 := Lib.hid ha2
  have HB2 := Lib.hid hb2
  have HC2 := Lib.hid hc2
  have HK2 := Lib.hid hk2
  clear ha2 hb2 hc2 hk2
  go_wp2_with fail
  refine (HR.out _).mono ?_
  rintro e w2' ⟨rfl, rfl⟩
  go_wp2_with fail
  refine (HT.out _).mono ?_
  rintro e w2'' ⟨rfl, rfl⟩
  have h0 : (h == 0) = false ∧ (h != 0) = true := by rcases hh with ⟨_, rfl⟩ | ⟨_, rfl⟩ <;> exact ⟨rfl, rfl⟩
  obtain ⟨h01, h02⟩ := h0
  have he : ((⟨#[]⟩ : ByteArray).toList) = [] := by rw [Lib.toList_data]
  go_wp2_with fail
  refine (HM.out _).mono ?_
  rintro e w3 ⟨rfl, hb3⟩
  have ha3 := HA2.out.kp (Kp.of_below (ps := []) hb3) (by simp)
  have hr3 := HB2.out.kp (Kp.of_below (ps := []) hb3) (by simp)
  have hc3 := HC2.out.kp (Kp.of_below (ps := []) hb3) (by simp)
  have hs3 : nb + 3 ≤ w3.heap.size := by have := HC2.out.lt; have := hb3.size; omega
  have hs2 : nb + 3 ≤ w2''.heap.size := by have := HC2.out.lt; omega
  have hk3 : Below nb w w3 := HK2.out.trans (hb3.mono (by omega))
  have HA3 := Lib.hid ha3
  have HB3 := Lib.hid hr3
  have HC3 := Lib.hid hc3
  have HK3 := Lib.hid hk3
  have h77 : (h == 77) = false ∧ (h == 46) = false := by rcases hh with ⟨_, rfl⟩ | ⟨_, rfl⟩ <;> exact ⟨rfl, rfl⟩
  obtain ⟨h771, h46⟩ := h77
  have h68 : ∃ b, (h == 68) = b ∧ (b = false → (h == 83) = true) := by
    rcases hh with ⟨_, rfl⟩ | ⟨_, rfl⟩
    · exact ⟨false, rfl, fun _ => rfl⟩
    · exact ⟨true, rfl, fun h => by cases h⟩
  obtain ⟨b68, hb68, h83⟩ := h68
  clear ha3 hr3 hc3 hk3 hb3 q0 z0
  cases b68 with
  | true =>
    go_wp2_with fail
    refine (HW.out _).mono ?_
    rintro e w5 ⟨rfl, hb5⟩
    rw [World.size_alloc] at hb5
    have hb35 : Below w3.heap.size w3 w5 := ((Below.refl _ _).alloc (Nat.le_refl _) _).trans (hb5.mono (by omega))
    go_wp2_with fail
    refine (HP.out _).mono ?_
    rintro e w6 ⟨rfl, hb6⟩
    have hb36 : Below w3.heap.size w3 w6 := hb35.trans (hb6.mono hb35.size)
    have ha6 := HA3.out.kp (Kp.of_below (ps := []) hb36) (by simp)
    have hr6 := HB3.out.kp (Kp.of_below (ps := []) hb36) (by simp)
    have hc6 := HC3.out.kp (Kp.of_below (ps := []) hb36) (by simp)
    have hk6 : Below nb w w6 := HK3.out.trans (hb36.mono (by omega))
    obtain ⟨q1, z1⟩ := at_ hr6 0 rfl
    obtain ⟨q2, z2⟩ := at_ hc6 0 rfl
    have HA6 := Lib.hid ha6
    have HB6 := Lib.hid hr6
    have HC6 := Lib.hid hc6
    have HK6 := Lib.hid hk6
    clear hb5 hb35 hb6 hb36 ha6 hr6 hc6 hk6
    go_wp2_with fail
    obtain ⟨w7, HW7⟩ : ∃ w7 : World, Hid ((w6.setCell ⟨nb + 1, 0, none⟩ (.string ⟨#[33, 33, 105, 110, 116]⟩)).setCell ⟨nb + 1 + 1, 0, none⟩ (.iface 3 (.int .i64 V)) = w7) := ⟨_, rfl⟩
    rw [HW7.out]
    have ha7 : Bk w7 nb 9 [.string ⟨#[]⟩] := by rw [← HW7.out]; exact (HA6.out.other (nb + 1) 0 _ (by omega)).other (nb + 1 + 1) 0 _ (by omega)
    have hr7 : Bk w7 (nb + 1) 9 [.string ⟨#[33, 33, 105, 110, 116]⟩] := by rw [← HW7.out]; exact (HB6.out.set 0 _).other (nb + 1 + 1) 0 _ (by omega)
    have hc7 : Bk w7 (nb + 1 + 1) 20 [.iface 3 (.int .i64 V)] := by rw [← HW7.out]; exact (HC6.out.other (nb + 1) 0 _ (by omega)).set 0 _
    have hk7 : Below nb w w7 := by rw [← HW7.out]; exact (HK6.out.setCell (by show nb ≤ nb + 1; omega) _).setCell (by show nb ≤ nb + 1 + 1; omega) _
    obtain ⟨p0, _⟩ := at_ ha7 0 rfl
    obtain ⟨p1, _⟩ := at_ hr7 0 rfl
    obtain ⟨p2, _⟩ := at_ hc7 0 rfl
    have HK7 := Lib.hid hk7
    clear ha7 hr7 hc7 hk7 q1 q2 z1 z2
    refine leaves_cons (f := 24) (args := #[.pointer (some ⟨nb, 0, none⟩), .pointer (some ⟨nb + 1, 0, none⟩), .pointer (some ⟨nb + 1 + 1, 0, none⟩)]) (by simp) (by simp [go_sem]) ?_
    refine (done_idle _ _ _ _ p0).mono ?_
    rintro e u' w'' ⟨rfl, rfl, rfl⟩
    simp [Leaves, settle, results, Tryd.results16, go_sem, p1, p2]
    rw [HNB.out]
    exact HK7.out
  | false =>
    have h83 := h83 rfl
    go_wp2_with fail
    refine (HW.out _).mono ?_
    rintro e w5 ⟨rfl, hb5⟩
    rw [World.size_alloc] at hb5
    have hb35 : Below w3.heap.size w3 w5 := ((Below.refl _ _).alloc (Nat.le_refl _) _).trans (hb5.mono (by omega))
    go_wp2_with fail
    refine (HP.out _).mono ?_
    rintro e w6 ⟨rfl, hb6⟩
    have hb36 : Below w3.heap.size w3 w6 := hb35.trans (hb6.mono hb35.size)
    have ha6 := HA3.out.kp (Kp.of_below (ps := []) hb36) (by simp)
    have hr6 := HB3.out.kp (Kp.of_below (ps := []) hb36) (by simp)
    have hc6 := HC3.out.kp (Kp.of_below (ps := []) hb36) (by simp)
    have hk6 : Below nb w w6 := HK3.out.trans (hb36.mono (by omega))
    obtain ⟨q1, z1⟩ := at_ hr6 0 rfl
    obtain ⟨q2, z2⟩ := at_ hc6 0 rfl
    have HA6 := Lib.hid ha6
    have HB6 := Lib.hid hr6
    have HC6 := Lib.hid hc6
    have HK6 := Lib.hid hk6
    clear hb5 hb35 hb6 hb36 ha6 hr6 hc6 hk6
    go_wp2_with fail
    obtain ⟨w7, HW7⟩ : ∃ w7 : World, Hid ((w6.setCell ⟨nb + 1, 0, none⟩ (.string ⟨#[33, 33, 105, 110, 116]⟩)).setCell ⟨nb + 1 + 1, 0, none⟩ (.iface 3 (.int .i64 V)) = w7) := ⟨_, rfl⟩
    rw [HW7.out]
    have ha7 : Bk w7 nb 9 [.string ⟨#[]⟩] := by rw [← HW7.out]; exact (HA6.out.other (nb + 1) 0 _ (by omega)).other (nb + 1 + 1) 0 _ (by omega)
    have hr7 : Bk w7 (nb + 1) 9 [.string ⟨#[33, 33, 105, 110, 116]⟩] := by rw [← HW7.out]; exact (HB6.out.set 0 _).other (nb + 1 + 1) 0 _ (by omega)
    have hc7 : Bk w7 (nb + 1 + 1) 20 [.iface 3 (.int .i64 V)] := by rw [← HW7.out]; exact (HC6.out.other (nb + 1) 0 _ (by omega)).set 0 _
    have hk7 : Below nb w w7 := by rw [← HW7.out]; exact (HK6.out.setCell (by show nb ≤ nb + 1; omega) _).setCell (by show nb ≤ nb + 1 + 1; omega) _
    obtain ⟨p0, _⟩ := at_ ha7 0 rfl
    obtain ⟨p1, _⟩ := at_ hr7 0 rfl
    obtain ⟨p2, _⟩ := at_ hc7 0 rfl
    have HK7 := Lib.hid hk7
    clear ha7 hr7 hc7 hk7 q1 q2 z1 z2
    refine leaves_cons (f := 24) (args := #[.pointer (some ⟨nb, 0, none⟩), .pointer (some ⟨nb + 1, 0, none⟩), .pointer (some ⟨nb + 1 + 1, 0, none⟩)]) (by simp) (by simp [go_sem]) ?_
    refine (done_idle _ _ _ _ p0).mono ?_
    rintro e u' w'' ⟨rfl, rfl, rfl⟩
    simp [Leaves, settle, results, Tryd.results16, go_sem, p1, p2]
    rw [HNB.out]
    exact HK7.out
end Go.Proofs.YtpdfamigmkeflaaDoor.Ri
