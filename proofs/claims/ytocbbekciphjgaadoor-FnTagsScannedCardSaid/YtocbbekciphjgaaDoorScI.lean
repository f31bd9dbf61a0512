/- The law's own functions (digits, ndSpaces): the walks. -/
import Derived.Test.YtocbbekciphjgaaDoorScA
import Derived.Handy
import Derived.Laws.BytesArg
namespace Go.Proofs.YtocbbekciphjgaaDoor.Sc
open Go.RowKit Go.Proofs.YtocbbekciphjgaaDoor.Rdp Go.Proofs.YtocbbekciphjgaaDoor.Pa
set_option linter.unusedVariables false
set_option linter.unusedSimpArgs false
/-- The digits of a number below 100. -/
def dig (n : Nat) : List Int := if n < 10 then [48 + (n : Int)] else [48 + (n / 10 : Nat), 48 + (n % 10 : Nat)]
theorem conv_bytes (xs : List Int) (g c : Nat) (w : World) (h : ∀ i, i < xs.length → w.cell? ⟨g, i, none⟩ = some (.int .u8 (xs.getD i 0))) : (convert 22 9 (.slice (some ⟨g, 0, none⟩) xs.length c)).run Tryd.prog w = .ok (.string (strOfNums xs)) w := by
  refine run_convert_bytes_arg w 22 5 Tryd.underlying22 Tryd.underlying5 g 0 xs.length c xs rfl ?_ 9 Tryd.underlying9
  intro i hi
  rw [Nat.zero_add]
  exact h i hi
set_option maxHeartbeats 1000000 in
set_option maxRecDepth 100000 in
theorem dig1 (n : Nat) (hn : n < 10) (w : World) : Calls Tryd.prog 13 #[.int .i64 n] w fun e w' => e = .returned (.string (strOfNums (dig n))) ∧ Below w.heap.size w w' := by
  have h1 : decide ((n : Int) < 10) = true := by simp; omega
  have hd : dig n = [48 + (n : Int)] := by unfold dig; rw [if_pos hn]
  rw [hd]
  have hc := conv_bytes [48 + (n : Int)] w.heap.size 1 (w.alloc (.cells #[.int .u8 (48 + n)] 5)) (fun i hi => by
    have : i = 0 := by simp at hi; omega
    subst this
    simp)
  simp only [List.length_cons, List.length_nil] at hc
  go_enter Tryd.func13, Tryd.ntmps13
  go_wp2_with fail
  go_ret
  exact ⟨rfl, (Below.refl _ _).alloc (Nat.le_refl _) _⟩
set_option maxHeartbeats 1000000 in
set_option maxRecDepth 100000 in
theorem dig2 (a b : Nat) (ha : 1 ≤ a) (ha9 : a ≤ 9) (hb : b ≤ 9) (w : World) : Calls Tryd.prog 13 #[.int .i64 (10 * a + b : Nat)] w fun e w' => e = .returned (.string (strOfNums (dig (10 * a + b)))) ∧ Below w.heap.size w w' := by
  have h1 : decide (((10 * a + b : Nat) : Int) < 10) = false := by simp; omega
  have hd : dig (10 * a + b) = [48 + (a : Int), 48 + (b : Int)] := by
    unfold dig
    rw [if_neg (by omega), show (10 * a + b) / 10 = a by omega, show (10 * a + b) % 10 = b by omega]
  rw [hd]
  have q1 : Int.tdiv ((10 * a + b : Nat) : Int) 10 = (a : Int) := by rw [Int.tdiv_eq_ediv_of_nonneg (by omega)]; omega
  have q2 : Int.tmod ((10 * a + b : Nat) : Int) 10 = (b : Int) := by rw [Int.tmod_eq_emod_of_nonneg (by omega)]; omega
  have hc := conv_bytes [48 + (a : Int), 48 + (b : Int)] w.heap.size 2 (w.alloc (.cells #[.int .u8 (48 + a), .int .u8 (48 + b)] 5)) (fun i hi => by
    have : i = 0 ∨ i = 1 := by simp at hi; omega
    rcases this with rfl | rfl <;> simp)
  simp only [List.length_cons, List.length_nil] at hc
  obtain ⟨N, HN⟩ : ∃ N : Int, ((10 * a + b : Nat) : Int) = N := ⟨_, rfl⟩
  rw [HN] at h1 q1 q2 ⊢
  go_enter Tryd.func13, Tryd.ntmps13
  go_wp2_with fail
  go_ret
  exact ⟨rfl, (Below.refl _ _).alloc (Nat.le_refl _) _⟩
set_option maxHeartbeats 1000000 in
set_option maxRecDepth 100000 in
theorem mk_sp (n : Nat) (hn : n ≤ 1000000) (w : World) : (Instr.makeSlice 22 (.int .i64 n) (.int .i64 n)).run Tryd.prog w = .ok (.slice (some ⟨w.heap.size, 0, none⟩) n n) (w.alloc (.cells (zeros n).toArray 5)) := by
  obtain ⟨i0, hi, hz0, hz1, hz2⟩ := info_parts info5
  have h := run_make (P := Tryd.prog) w 22 5 i0 (.int .u8 0) Tryd.underlying22 hi hz0 .i64 .i64 (n : Int) (n : Int) (by omega) (by omega) (by rw [hz2]; omega) (by omega)
  rw [h, hz1, Nat.mul_one]
  have e : madeCells (Value.int .u8 0).cells n = (zeros n).toArray := by
    unfold madeCells zeros
    apply Array.ext
    · simp
    · intro i h1 h2
      simp [Value.cells, Nat.mod_one]
  simp [e]
set_option maxHeartbeats 1000000 in
set_option maxRecDepth 100000 in
theorem sp0 (w : World) : Calls Tryd.prog 14 #[.int .i64 0] w fun e w' => e = .returned (.string (strOfNums [])) ∧ Below w.heap.size w w' := by
  have hm : (Instr.makeSlice 22 (.int .i64 0) (.int .i64 0)).run Tryd.prog w = .ok (.slice (some ⟨w.heap.size, 0, none⟩) 0 0) (w.alloc (.cells #[] 5)) := mk_sp 0 (by omega) w
  have hc := conv_bytes [] w.heap.size 0 (w.alloc (.cells #[] 5)) (fun i hi => by
    simp at hi)
  simp only [List.length_nil] at hc
  go_enter Tryd.func14, Tryd.ntmps14
  go_wp2_with fail
  go_rounds 1
  go_ret
  exact ⟨rfl, (Below.refl _ _).alloc (Nat.le_refl _) _⟩
set_option maxHeartbeats 1000000 in
set_option maxRecDepth 100000 in
theorem sp1 (w : World) : Calls Tryd.prog 14 #[.int .i64 1] w fun e w' => e = .returned (.string (strOfNums [32])) ∧ Below w.heap.size w w' := by
  have hm : (Instr.makeSlice 22 (.int .i64 1) (.int .i64 1)).run Tryd.prog w = .ok (.slice (some ⟨w.heap.size, 0, none⟩) 1 1) (w.alloc (.cells #[.int .u8 0] 5)) := mk_sp 1 (by omega) w
  have hc := conv_bytes [32] w.heap.size 1 (w.alloc (.cells #[.int .u8 32] 5)) (fun i hi => by
    have : i = 0 := by simp at hi; omega
    rcases this with rfl <;> simp)
  simp only [List.length_cons, List.length_nil] at hc
  go_enter Tryd.func14, Tryd.ntmps14
  go_wp2_with fail
  go_rounds 2
  go_ret
  exact ⟨rfl, (Below.refl _ _).alloc (Nat.le_refl _) _⟩
set_option maxHeartbeats 1000000 in
set_option maxRecDepth 100000 in
theorem sp2 (w : World) : Calls Tryd.prog 14 #[.int .i64 2] w fun e w' => e = .returned (.string (strOfNums [32, 32])) ∧ Below w.heap.size w w' := by
  have hm : (Instr.makeSlice 22 (.int .i64 2) (.int .i64 2)).run Tryd.prog w = .ok (.slice (some ⟨w.heap.size, 0, none⟩) 2 2) (w.alloc (.cells #[.int .u8 0, .int .u8 0] 5)) := mk_sp 2 (by omega) w
  have hc := conv_bytes [32, 32] w.heap.size 2 (w.alloc (.cells #[.int .u8 32, .int .u8 32] 5)) (fun i hi => by
    have : i = 0 ∨ i = 1 := by simp at hi; omega
    rcases this with rfl | rfl <;> simp)
  simp only [List.length_cons, List.length_nil] at hc
  go_enter Tryd.func14, Tryd.ntmps14
  go_wp2_with fail
  go_rounds 3
  go_ret
  exact ⟨rfl, (Below.refl _ _).alloc (Nat.le_refl _) _⟩
set_option maxHeartbeats 1000000 in
set_option maxRecDepth 100000 in
theorem sp3 (w : World) : Calls Tryd.prog 14 #[.int .i64 3] w fun e w' => e = .returned (.string (strOfNums [32, 32, 32])) ∧ Below w.heap.size w w' := by
  have hm : (Instr.makeSlice 22 (.int .i64 3) (.int .i64 3)).run Tryd.prog w = .ok (.slice (some ⟨w.heap.size, 0, none⟩) 3 3) (w.alloc (.cells #[.int .u8 0, .int .u8 0, .int .u8 0] 5)) := mk_sp 3 (by omega) w
  have hc := conv_bytes [32, 32, 32] w.heap.size 3 (w.alloc (.cells #[.int .u8 32, .int .u8 32, .int .u8 32] 5)) (fun i hi => by
    have : i = 0 ∨ i = 1 ∨ i = 2 := by simp at hi; omega
    rcases this with rfl | rfl | rfl <;> simp)
  simp only [List.length_cons, List.length_nil] at hc
  go_enter Tryd.func14, Tryd.ntmps14
  go_wp2_with fail
  go_rounds 4
  go_ret
  exact ⟨rfl, (Below.refl _ _).alloc (Nat.le_refl _) _⟩
theorem spaces_any (n : Nat) (hn : n ≤ 3) (w : World) : Calls Tryd.prog 14 #[.int .i64 n] w fun e w' => e = .returned (.string (strOfNums (List.replicate n 32))) ∧ Below w.heap.size w w' := by
  have : n = 0 ∨ n = 1 ∨ n = 2 ∨ n = 3 := by omega
  rcases this with rfl | rfl | rfl | rfl
  · exact sp0 w
  · exact sp1 w
  · exact sp2 w
  · exact sp3 w
theorem digits_any (n : Nat) (hn : n < 100) (w : World) : Calls Tryd.prog 13 #[.int .i64 n] w fun e w' => e = .returned (.string (strOfNums (dig n))) ∧ Below w.heap.size w w' := by
  by_cases h : n < 10
  · exact dig1 n h w
  · have := dig2 (n / 10) (n % 10) (by omega) (by omega) (by omega) w
    rw [show 10 * (n / 10) + n % 10 = n by omega] at this
    exact this
end Go.Proofs.YtocbbekciphjgaaDoor.Sc
