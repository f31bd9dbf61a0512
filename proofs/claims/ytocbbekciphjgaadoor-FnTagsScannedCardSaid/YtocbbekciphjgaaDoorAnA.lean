/- Whether a byte ends a word (is_blankz), for bytes in ASCII: the walk. -/
import Derived.Test.YtocbbekciphjgaaDoorScA
import Derived.WalkSpells
import Derived.WalkLawsBesides
import Derived.BigGuard
import Derived.BigCall
namespace Go.Proofs.YtocbbekciphjgaaDoor.Sc
open Go.RowKit Go.Proofs.YtocbbekciphjgaaDoor.Rdp Go.Proofs.YtocbbekciphjgaaDoor.Pa
set_option linter.unusedVariables false
set_option linter.unusedSimpArgs false
def isBlankz (x : Int) : Bool := x == 32 || x == 9 || x == 13 || x == 10 || x == 0
set_option maxHeartbeats 4000000 in
set_option maxRecDepth 100000 in
theorem blankz_any (q i n c : Nat) (x : Int) (w : World) (hi : i < n) (hn : n ≤ 2000) (h0x : 0 ≤ x) (h1x : x < 128) (hx : w.cell? ⟨q, i, none⟩ = some (.int .u8 x)) :
    Calls Tryd.prog 110 #[.slice (some ⟨q, 0, none⟩) n c, .int .i64 i] w fun e w' => e = .returned (.bool (isBlankz x)) ∧ w' = w := by
  have h1 : (i : Int) < (n : Int) := by omega
  have h0 : (0 : Int) ≤ (i : Int) := by omega
  have n1 : (x == 194) = false := by rw [beq_eq_false_iff_ne]; omega
  have n2 : (x == 226) = false := by rw [beq_eq_false_iff_ne]; omega
  obtain ⟨b1, e1⟩ : ∃ b, (x == 32) = b := ⟨_, rfl⟩
  obtain ⟨b2, e2⟩ : ∃ b, (x == 9) = b := ⟨_, rfl⟩
  obtain ⟨b3, e3⟩ : ∃ b, (x == 13) = b := ⟨_, rfl⟩
  obtain ⟨b4, e4⟩ : ∃ b, (x == 10) = b := ⟨_, rfl⟩
  obtain ⟨b5, e5⟩ : ∃ b, (x == 0) = b := ⟨_, rfl⟩
  have hr : isBlankz x = (b1 || b2 || b3 || b4 || b5) := by unfold isBlankz; rw [e1, e2, e3, e4, e5]
  rw [hr]
  clear hr
  cases b1
  · cases b2
    · cases b3
      · cases b4
        · cases b5
          · go_enter Tryd.func110, Tryd.ntmps110; (try simp only [List.append])
            go_wp2_with fail
            go_ret
            exact ⟨rfl, rfl⟩
          · go_enter Tryd.func110, Tryd.ntmps110; (try simp only [List.append])
            go_wp2_with fail
            go_ret
            exact ⟨rfl, rfl⟩
        · go_enter Tryd.func110, Tryd.ntmps110; (try simp only [List.append])
          go_wp2_with fail
          go_ret
          exact ⟨rfl, rfl⟩
      · go_enter Tryd.func110, Tryd.ntmps110; (try simp only [List.append])
        go_wp2_with fail
        go_ret
        exact ⟨rfl, rfl⟩
    · go_enter Tryd.func110, Tryd.ntmps110; (try simp only [List.append])
      go_wp2_with fail
      go_ret
      exact ⟨rfl, rfl⟩
  · go_enter Tryd.func110, Tryd.ntmps110; (try simp only [List.append])
    go_wp2_with fail
    go_ret
    exact ⟨rfl, rfl⟩
end Go.Proofs.YtocbbekciphjgaaDoor.Sc
