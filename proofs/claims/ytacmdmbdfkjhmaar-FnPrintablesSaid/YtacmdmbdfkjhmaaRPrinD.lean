/- The reference's bytes of one character below 65536, and its look at whether a character may stand in a text: the walks. -/
import Derived.Test.YtacmdmbdfkjhmaaRPrinB
import Derived.Laws.BitsLemmas
namespace Go.Proofs.YtacmdmbdfkjhmaaR.Prin
open Go.RowKit
set_option linter.unusedVariables false
/-- The bytes of a character below 65536. -/
def enc8 (c : Int) : List Int := if c < 128 then [c] else if c < 2048 then [192 + c / 64, 128 + c % 64] else [224 + c / 4096, 128 + c / 64 % 64, 128 + c % 64]
theorem wraps62 (n : Int) (h₀ : 0 ≤ n) (h₁ : n < 2 ^ 62) : IntKind.i64.wrap n = n := by rw [IntKind.wrap_i64]; omega
theorem and63 {x : Int} (h₀ : 0 ≤ x) (h₁ : x < 65536) : Go.bits .and .i64 x 63 = x % 64 := bits_mask .i64 62 (by decide) wraps62 6 (by decide) x h₀ (by omega)
theorem or128 {y : Int} (h₀ : 0 ≤ y) (h₁ : y < 64) : Go.bits .or .i64 128 y = 128 + y :=
  bits_join .i64 62 (by decide) wraps62 6 128 y (by decide) (by decide) (by decide) h₀ h₁ (by omega)
theorem or192 {y : Int} (h₀ : 0 ≤ y) (h₁ : y < 32) : Go.bits .or .i64 192 y = 192 + y :=
  bits_join .i64 62 (by decide) wraps62 6 192 y (by decide) (by decide) (by decide) h₀ (by omega) (by omega)
theorem or224 {y : Int} (h₀ : 0 ≤ y) (h₁ : y < 16) : Go.bits .or .i64 224 y = 224 + y :=
  bits_join .i64 62 (by decide) wraps62 5 224 y (by decide) (by decide) (by decide) h₀ (by omega) (by omega)
def Bytes (w : World) (l : List Int) (e : Ending) (w' : World) : Prop :=
  ∃ g cap, e = .returned (.slice (some ⟨g, 0, none⟩) l.length cap) ∧ (∀ j, j < l.length → w'.cell? ⟨g, j, none⟩ = some (.int .u8 (l.getD j 0))) ∧ Below w.heap.size w w'
theorem bytes_of {w w1 : World} {v : Value} {l : List Int} {n : Nat} (hn : l.length = n) (hl : 0 < n) (ho : w1.ownsRow w.heap.size 5 1 v n (l.map (Value.int .u8))) (hb : Below w.heap.size w w1) : Bytes w l (.returned v) w1 := by
  subst hn
  have hcells := fun g hg => World.ownsRow.cells ho (g := g) hg
  obtain ⟨_, ⟨rfl, h0⟩ | ⟨g, cap, cur, rfl, _⟩⟩ := ho
  · omega
  refine ⟨g, cap, rfl, fun j hj => ?_, hb⟩
  have h := hcells g rfl j (.int .u8 (l.getD j 0)) (by rw [List.getElem?_map, List.getD_eq_getElem?_getD, List.getElem?_eq_getElem hj]; rfl)
  have e : ({ block := g, off := 0 } : Addr).add j = ⟨g, j, none⟩ := by
    unfold Addr.add
    split
    · rename_i h; subst h; rfl
    · simp
  rw [e] at h
  exact h
set_option maxHeartbeats 1000000 in
set_option maxRecDepth 100000 in
theorem encode_any (b cap : Nat) (c : Int) (h0 : 0 ≤ c) (h1 : c ≤ 65535) (w : World) (hc : w.cell? ⟨b, 0, none⟩ = some (.int .i64 c)) (hb : b < w.heap.size) :
    Calls Try.prog 21 #[.slice (some ⟨b, 0, none⟩) 1 cap] w (Bytes w (enc8 c)) := by
  obtain ⟨i0, hi, hz0, hz1, hz2⟩ := info_parts info5
  by_cases ha : c < 128
  · have he : enc8 c = [c] := by unfold enc8; rw [if_pos ha]
    go_enter Try.func21, Try.ntmps21
    try simp only [List.append]
    go_wp2_with fail
    refine wp_loop_rounds 2 ?_
    rw [rounds_succ]
    go_wp2_with ((at_builtin; refine wpList_append_own _ rfl (.tmp 36) (.tmp 39) 24 rfl w.heap.size 5 i0 (.int .u8 0) 1 1 Try.underlying24 hi hz0 hz1 hz2 rfl (by decide) (.slice none 0 0) 0 [] rfl ?c1 ⟨w.heap.size, 0, none⟩ 1 1 [.int .u8 c] rfl ?c2 ?c3 ?c4 ?c5 ?c6 ?c7 ?_))
    case c1 => exact ⟨rfl, .inl ⟨rfl, rfl⟩⟩
    case c2 => rfl
    case c3 =>
      intro j u hu
      rcases j with _ | _ | _ | j <;> simp at hu <;> (try subst hu) <;> simp [Addr.add, World.cell?_alloc_new]
    case c4 =>
      intro u hu
      simp only [List.mem_cons, List.mem_nil_iff, or_false] at hu
      subst hu; rfl
    case c5 => unfold maxLen; omega
    case c6 => omega
    case c7 => simp
    intro v1 w1 hown1 hg1 hne1
    have hb1 : Below w.heap.size w w1 := ((Below.refl _ _).alloc (Nat.le_refl _) _).grown hg1 (by simp) (by intro k hk; simp [Value.ownBlock] at hk)
    have HO1 := Lib.hid hown1
    have HB1 := Lib.hid hb1
    clear hown1 hg1 hb1 hne1
    go_wp2_with fail
    rw [rounds_succ]
    go_wp2_with fail
    go_ret
    rw [he]
    exact bytes_of (n := 1) rfl (by omega) HO1.out HB1.out
  by_cases hb2 : c < 2048
  · have he : enc8 c = [192 + c / 64, 128 + c % 64] := by unfold enc8; rw [if_neg ha, if_pos hb2]
    have e1 : Go.bits .or .i64 192 (c / 64) = 192 + c / 64 := or192 (by omega) (by omega)
    have e2 : Go.bits .and .i64 c 63 = c % 64 := and63 h0 (by omega)
    have e3 : Go.bits .or .i64 128 (c % 64) = 128 + c % 64 := or128 (by omega) (by omega)
    go_enter Try.func21, Try.ntmps21
    try simp only [List.append]
    go_wp2_with fail
    refine wp_loop_rounds 2 ?_
    rw [rounds_succ]
    go_wp2_with ((at_builtin; refine wpList_append_own _ rfl (.tmp 44) (.tmp 53) 24 rfl w.heap.size 5 i0 (.int .u8 0) 1 1 Try.underlying24 hi hz0 hz1 hz2 rfl (by decide) (.slice none 0 0) 0 [] rfl ?c1 ⟨w.heap.size, 0, none⟩ 2 2 [.int .u8 (192 + c / 64), .int .u8 (128 + c % 64)] rfl ?c2 ?c3 ?c4 ?c5 ?c6 ?c7 ?_))
    case c1 => exact ⟨rfl, .inl ⟨rfl, rfl⟩⟩
    case c2 => rfl
    case c3 =>
      intro j u hu
      rcases j with _ | _ | _ | j <;> simp at hu <;> (try subst hu) <;> simp [Addr.add, World.cell?_alloc_new]
    case c4 =>
      intro u hu
      simp only [List.mem_cons, List.mem_nil_iff, or_false] at hu
      rcases hu with rfl | rfl <;> rfl
    case c5 => unfold maxLen; omega
    case c6 => omega
    case c7 => simp
    intro v1 w1 hown1 hg1 hne1
    have hb1 : Below w.heap.size w w1 := ((Below.refl _ _).alloc (Nat.le_refl _) _).grown hg1 (by simp) (by intro k hk; simp [Value.ownBlock] at hk)
    have HO1 := Lib.hid hown1
    have HB1 := Lib.hid hb1
    clear hown1 hg1 hb1 hne1
    go_wp2_with fail
    rw [rounds_succ]
    go_wp2_with fail
    go_ret
    rw [he]
    exact bytes_of (n := 2) rfl (by omega) HO1.out HB1.out
  · have he : enc8 c = [224 + c / 4096, 128 + c / 64 % 64, 128 + c % 64] := by unfold enc8; rw [if_neg ha, if_neg hb2]
    have hb3 : c < 65536 := by omega
    have e1 : Go.bits .or .i64 224 (c / 4096) = 224 + c / 4096 := or224 (by omega) (by omega)
    have e2 : Go.bits .and .i64 c 63 = c % 64 := and63 h0 (by omega)
    have e3 : Go.bits .or .i64 128 (c % 64) = 128 + c % 64 := or128 (by omega) (by omega)
    have e4 : Go.bits .and .i64 (c / 64) 63 = c / 64 % 64 := and63 (by omega) (by omega)
    have e5 : Go.bits .or .i64 128 (c / 64 % 64) = 128 + c / 64 % 64 := or128 (by omega) (by omega)
    go_enter Try.func21, Try.ntmps21
    try simp only [List.append]
    go_wp2_with fail
    refine wp_loop_rounds 2 ?_
    rw [rounds_succ]
    go_wp2_with ((at_builtin; refine wpList_append_own _ rfl (.tmp 58) (.tmp 72) 24 rfl w.heap.size 5 i0 (.int .u8 0) 1 1 Try.underlying24 hi hz0 hz1 hz2 rfl (by decide) (.slice none 0 0) 0 [] rfl ?c1 ⟨w.heap.size, 0, none⟩ 3 3 [.int .u8 (224 + c / 4096), .int .u8 (128 + c / 64 % 64), .int .u8 (128 + c % 64)] rfl ?c2 ?c3 ?c4 ?c5 ?c6 ?c7 ?_))
    case c1 => exact ⟨rfl, .inl ⟨rfl, rfl⟩⟩
    case c2 => rfl
    case c3 =>
      intro j u hu
      rcases j with _ | _ | _ | j <;> simp at hu <;> (try subst hu) <;> simp [Addr.add, World.cell?_alloc_new]
    case c4 =>
      intro u hu
      simp only [List.mem_cons, List.mem_nil_iff, or_false] at hu
      rcases hu with rfl | rfl | rfl <;> rfl
    case c5 => unfold maxLen; omega
    case c6 => omega
    case c7 => simp
    intro v1 w1 hown1 hg1 hne1
    have hb1 : Below w.heap.size w w1 := ((Below.refl _ _).alloc (Nat.le_refl _) _).grown hg1 (by simp) (by intro k hk; simp [Value.ownBlock] at hk)
    have HO1 := Lib.hid hown1
    have HB1 := Lib.hid hb1
    clear hown1 hg1 hb1 hne1
    go_wp2_with fail
    rw [rounds_succ]
    go_wp2_with fail
    go_ret
    rw [he]
    exact bytes_of (n := 3) rfl (by omega) HO1.out HB1.out
end Go.Proofs.YtacmdmbdfkjhmaaR.Prin
