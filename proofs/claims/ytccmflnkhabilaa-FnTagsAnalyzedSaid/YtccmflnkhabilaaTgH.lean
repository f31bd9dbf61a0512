/- zzFits2: the walk. -/
import Derived.Test.YtccmflnkhabilaaTgG
namespace Go.Proofs.Ytccmflnkhabilaa.Tg
open Go.RowKit
set_option linter.unusedVariables false
set_option linter.unusedSimpArgs false
/-- Whether all texts are of a bearable size. -/
def Fit (n : Nat) (S : Nat → ByteArray) (w : World) (e : Ending) (w' : World) : Prop := ∃ b, e = .returned (.bool b) ∧ w' = w ∧ (b = true → n ≤ 2147483647 ∧ ∀ i, i < n → (S i).size ≤ 2147483647)
set_option maxHeartbeats 1000000 in
theorem zzfits_any (A : Option Addr) (n c : Nat) (S : Nat → ByteArray) (w : World) (hn : n ≤ 9223372036854775807) (hS : Strs w A n S) (hz : ∀ i, (S i).size ≤ 9223372036854775807) :
    Calls Try.prog 7 #[.slice A n c] w (Fit n S w) := by
  by_cases h0 : 2147483647 < n
  · have hd : decide (2147483647 < (n : Int)) = true := by simp; omega
    clear hS
    go_enter Try.func7, Try.ntmps7
    go_wp2_with fail
    go_ret
    exact ⟨false, rfl, rfl, fun h => by cases h⟩
  have hd : decide (2147483647 < (n : Int)) = false := by simp; omega
  have HS := Lib.hid hS
  have HZ := Lib.hid hz
  clear hS hz
  go_enter Try.func7, Try.ntmps7
  go_wp2_with fail
  go_loop [4, 10] (fun _ i => ∃ k : Nat, k ≤ n ∧ i = .int .i64 k ∧ ∀ j, j < k → (S j).size ≤ 2147483647) (fun _ i => n - (intOf i).toNat)
  case atStart => exact ⟨0, Nat.zero_le _, rfl, fun j hj => by omega⟩
  obtain ⟨k, hk, rfl, hall⟩ := hrel
  have HA := Lib.hid hall
  clear hall
  by_cases hkn : k < n
  · rcases HS.out with h | ⟨b, o, rfl, hlt, hcell⟩
    · omega
    have ck := hcell k hkn
    have hzk := HZ.out k
    clear hcell
    by_cases hbig : 2147483647 < (S k).size
    · go_wp2_with fail
      go_ret
      exact ⟨false, rfl, rfl, fun h => by cases h⟩
    · go_wp2_with fail
      go_round
      case rel => exact ⟨k + 1, by omega, by go_num, fun j hj => by (by_cases e : j = k; (subst e; omega); (exact HA.out j (by omega)))⟩
      case measure => simp [intOf]; omega
  · obtain rfl : k = n := by omega
    go_wp2_with fail
    go_ret
    exact ⟨true, rfl, rfl, fun _ => ⟨by omega, HA.out⟩⟩
end Go.Proofs.Ytccmflnkhabilaa.Tg
