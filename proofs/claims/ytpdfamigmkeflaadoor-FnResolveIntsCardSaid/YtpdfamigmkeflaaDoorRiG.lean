/- What the resolver asks of a number's text first (resolveTable, resolveMap, shortTag, resolvableTag): walked. Printed by genRiG.py. -/
import Derived.Test.YtpdfamigmkeflaaDoorRiB
namespace Go.Proofs.YtpdfamigmkeflaaDoor.Ri
open Go.RowKit
set_option linter.unusedVariables false
set_option linter.unusedSimpArgs false
/-- A text that begins as a number does. -/
def Nw (l : List UInt8) : Prop := ∃ a r, l = a :: r ∧ ((48 ≤ a.toNat ∧ a.toNat ≤ 57) ∨ ((a = 43 ∨ a = 45) ∧ ∃ b r', r = b :: r' ∧ 48 ≤ b.toNat ∧ b.toNat ≤ 57))
theorem S_list (l : List UInt8) : (S l).toList = l := by
  rw [Lib.toList_data]
  unfold S
  simp
theorem nw_ne {l : List UInt8} (h : Nw l) : l ≠ [] := by
  obtain ⟨a, r, rfl, _⟩ := h
  simp
/-- Words that begin otherwise. -/
theorem nw_word {l : List UInt8} (h : Nw l) (c : UInt8) (cs : List UInt8) (hc : (c.toNat < 48 ∨ 57 < c.toNat) ∧ ((c = 43 ∨ c = 45) → ∃ e es, cs = e :: es ∧ (e.toNat < 48 ∨ 57 < e.toNat))) : ((S l).toList == c :: cs) = false := by
  rw [S_list, beq_eq_false_iff_ne]
  intro e
  obtain ⟨a, r, rfl, ha⟩ := h
  rw [List.cons.injEq] at e
  obtain ⟨rfl, rfl⟩ := e
  rcases ha with ha | ⟨ha, b, r', rfl, hb⟩
  · omega
  · obtain ⟨e, es, h1, h2⟩ := hc.2 ha
    rw [List.cons.injEq] at h1
    obtain ⟨rfl, rfl⟩ := h1
    omega
theorem table_sign (x : Int) (hx : x = 43 ∨ x = 45) (w : World) : Calls Tryd.prog 26 #[.int .u8 x] w fun e w' => e = .returned (.int .u8 83) ∧ w' = w := by
  rcases hx with rfl | rfl
  all_goals
    go_enter Tryd.func26, Tryd.ntmps26
    go_wp2_with fail
    go_ret
    exact ⟨rfl, rfl⟩
set_option maxHeartbeats 2000000 in
theorem table_digit (x : Int) (hx : 48 ≤ x ∧ x ≤ 57) (w : World) : Calls Tryd.prog 26 #[.int .u8 x] w fun e w' => e = .returned (.int .u8 68) ∧ w' = w := by
  have h : x = 48 ∨ x = 49 ∨ x = 50 ∨ x = 51 ∨ x = 52 ∨ x = 53 ∨ x = 54 ∨ x = 55 ∨ x = 56 ∨ x = 57 := by omega
  rcases h with rfl | rfl | rfl | rfl | rfl | rfl | rfl | rfl | rfl | rfl
  all_goals
    go_enter Tryd.func26, Tryd.ntmps26
    go_wp2_with fail
    go_ret
    exact ⟨rfl, rfl⟩
set_option maxHeartbeats 2000000 in
set_option maxRecDepth 100000 in
theorem map_any (l : List UInt8) (h : Nw l) (w : World) : Calls Tryd.prog 27 #[.string (S l)] w fun e w' => e = .returned (.tuple #[.agg #[.nilIface, .string ⟨#[]⟩], .bool false]) ∧ Below w.heap.size w w' := by
  have ke : (S l).toList.isEmpty = false := by rw [S_list, List.isEmpty_eq_false_iff]; exact nw_ne h
  have k0 : ((S l).toList == [116, 114, 117, 101]) = false := nw_word h 116 [114, 117, 101] ⟨by decide, fun h => absurd h (by decide)⟩
  have k1 : ((S l).toList == [84, 114, 117, 101]) = false := nw_word h 84 [114, 117, 101] ⟨by decide, fun h => absurd h (by decide)⟩
  have k2 : ((S l).toList == [84, 82, 85, 69]) = false := nw_word h 84 [82, 85, 69] ⟨by decide, fun h => absurd h (by decide)⟩
  have k3 : ((S l).toList == [102, 97, 108, 115, 101]) = false := nw_word h 102 [97, 108, 115, 101] ⟨by decide, fun h => absurd h (by decide)⟩
  have k4 : ((S l).toList == [70, 97, 108, 115, 101]) = false := nw_word h 70 [97, 108, 115, 101] ⟨by decide, fun h => absurd h (by decide)⟩
  have k5 : ((S l).toList == [70, 65, 76, 83, 69]) = false := nw_word h 70 [65, 76, 83, 69] ⟨by decide, fun h => absurd h (by decide)⟩
  have k6 : ((S l).toList == [126]) = false := nw_word h 126 [] ⟨by decide, fun h => absurd h (by decide)⟩
  have k7 : ((S l).toList == [110, 117, 108, 108]) = false := nw_word h 110 [117, 108, 108] ⟨by decide, fun h => absurd h (by decide)⟩
  have k8 : ((S l).toList == [78, 117, 108, 108]) = false := nw_word h 78 [117, 108, 108] ⟨by decide, fun h => absurd h (by decide)⟩
  have k9 : ((S l).toList == [78, 85, 76, 76]) = false := nw_word h 78 [85, 76, 76] ⟨by decide, fun h => absurd h (by decide)⟩
  have k10 : ((S l).toList == [46, 110, 97, 110]) = false := nw_word h 46 [110, 97, 110] ⟨by decide, fun h => absurd h (by decide)⟩
  have k11 : ((S l).toList == [46, 78, 97, 78]) = false := nw_word h 46 [78, 97, 78] ⟨by decide, fun h => absurd h (by decide)⟩
  have k12 : ((S l).toList == [46, 78, 65, 78]) = false := nw_word h 46 [78, 65, 78] ⟨by decide, fun h => absurd h (by decide)⟩
  have k13 : ((S l).toList == [46, 105, 110, 102]) = false := nw_word h 46 [105, 110, 102] ⟨by decide, fun h => absurd h (by decide)⟩
  have k14 : ((S l).toList == [46, 73, 110, 102]) = false := nw_word h 46 [73, 110, 102] ⟨by decide, fun h => absurd h (by decide)⟩
  have k15 : ((S l).toList == [46, 73, 78, 70]) = false := nw_word h 46 [73, 78, 70] ⟨by decide, fun h => absurd h (by decide)⟩
  have k16 : ((S l).toList == [43, 46, 105, 110, 102]) = false := nw_word h 43 [46, 105, 110, 102] ⟨by decide, fun _ => ⟨_, _, rfl, by decide⟩⟩
  have k17 : ((S l).toList == [43, 46, 73, 110, 102]) = false := nw_word h 43 [46, 73, 110, 102] ⟨by decide, fun _ => ⟨_, _, rfl, by decide⟩⟩
  have k18 : ((S l).toList == [43, 46, 73, 78, 70]) = false := nw_word h 43 [46, 73, 78, 70] ⟨by decide, fun _ => ⟨_, _, rfl, by decide⟩⟩
  have k19 : ((S l).toList == [45, 46, 105, 110, 102]) = false := nw_word h 45 [46, 105, 110, 102] ⟨by decide, fun _ => ⟨_, _, rfl, by decide⟩⟩
  have k20 : ((S l).toList == [45, 46, 73, 110, 102]) = false := nw_word h 45 [46, 73, 110, 102] ⟨by decide, fun _ => ⟨_, _, rfl, by decide⟩⟩
  have k21 : ((S l).toList == [45, 46, 73, 78, 70]) = false := nw_word h 45 [46, 73, 78, 70] ⟨by decide, fun _ => ⟨_, _, rfl, by decide⟩⟩
  have k22 : ((S l).toList == [60, 60]) = false := nw_word h 60 [60] ⟨by decide, fun h => absurd h (by decide)⟩
  clear h
  go_enter Tryd.func27, Tryd.ntmps27
  go_wp2_with fail
  obtain ⟨w1, HW⟩ : ∃ w1 : World, Hid (w.alloc (Obj.cells #[Value.nilIface, Value.string ⟨#[]⟩] 60) = w1) := ⟨_, rfl⟩
  have q0 : w1.cell? ⟨w.heap.size, 0, none⟩ = some .nilIface := by rw [← HW.out]; simp [World.cell?_alloc_new]
  have q1 : w1.cell? ⟨w.heap.size, 1, none⟩ = some (.string ⟨#[]⟩) := by rw [← HW.out]; simp [World.cell?_alloc_new]
  have hb : Below w.heap.size w w1 := by rw [← HW.out]; exact (Below.refl _ _).alloc (Nat.le_refl _) _
  rw [HW.out]
  refine bodyPost_ret (v := .tuple #[.agg #[.nilIface, .string ⟨#[]⟩], .bool false]) (by simp [results, Tryd.results27, q0, q1, go_sem]) rfl ?_
  exact ⟨rfl, hb⟩
set_option maxHeartbeats 2000000 in
theorem prefix_nil (p : ByteArray) (hp : 1 ≤ p.size) (w : World) : Calls Tryd.prog 33 #[.string ⟨#[]⟩, .string p] w fun e w' => e = .returned (.bool false) ∧ w' = w := by
  have h1 : ¬ ((p.size : Int) ≤ 0) := by omega
  have h2 : decide ((p.size : Int) ≤ 0) = false := decide_eq_false h1
  have h3 : ¬ (p.size = 0) := by omega
  go_enter Tryd.func33, Tryd.ntmps33
  go_wp2
  go_ret
  exact ⟨rfl, rfl⟩
theorem short_nil (w : World) : Calls Tryd.prog 22 #[.string ⟨#[]⟩] w fun e w' => e = .returned (.string ⟨#[]⟩) ∧ w' = w := by
  have hp := fun p hp w => prefix_nil p hp w
  go_enter Tryd.func22, Tryd.ntmps22
  go_wp2_with fail
  refine (hp _ (by decide) _).mono ?_
  rintro e w1 ⟨rfl, rfl⟩
  go_wp2_with fail
  go_ret
  exact ⟨rfl, rfl⟩
theorem resolvable_nil (w : World) : Calls Tryd.prog 23 #[.string ⟨#[]⟩] w fun e w' => e = .returned (.bool true) ∧ w' = w := by
  have he : ((⟨#[]⟩ : ByteArray).toList).isEmpty = true := by rw [Lib.toList_data]; rfl
  go_enter Tryd.func23, Tryd.ntmps23
  go_wp2_with fail
  go_ret
  exact ⟨rfl, rfl⟩
end Go.Proofs.YtpdfamigmkeflaaDoor.Ri
