/- Two slices of bytes compared (bytes.Equal, bytes.HasPrefix): the walks. -/
import Derived.Test.YtccmflnkhabilaaEmB
import Derived.Shelf.Bytes.SlEqualAll
namespace Go.Proofs.Ytccmflnkhabilaa.Tg
open Go.RowKit
set_option linter.unusedVariables false
/-- How a slice of bytes lies: n bytes, the numbers xs. -/
def Lies (w : World) (A : Option Addr) (n : Nat) (xs : List Int) : Prop :=
  xs.length = n ∧ (0 < n → ∃ b o, A = some ⟨b, o, none⟩ ∧ b < w.heap.size ∧ ∀ i, i < n → w.cell? ⟨b, o + i, none⟩ = some (.int .u8 (xs.getD i 0)))
theorem Lies.conv {w : World} {A : Option Addr} {n : Nat} {xs : List Int} (h : Lies w A n xs) (c : Nat) : (convert 22 9 (.slice A n c)).run Try.prog w = .ok (.string (strOfNums xs)) w :=
  Lib.BytesIn.convert (P := Try.prog) (fun hn => by obtain ⟨b, o, e, _, hc⟩ := h.2 hn; exact ⟨b, o, e, hc⟩) h.1 c 22 5 9 Try.underlying22 Try.underlying5 Try.underlying9
theorem Lies.take {w : World} {A : Option Addr} {n : Nat} {xs : List Int} (h : Lies w A n xs) (m : Nat) (hm : m ≤ n) : Lies w A m (xs.take m) := by
  refine ⟨by simp; have := h.1; omega, fun h0 => ?_⟩
  obtain ⟨b, o, e, hb, hc⟩ := h.2 (by omega)
  refine ⟨b, o, e, hb, fun i hi => ?_⟩
  rw [List.getD_eq_getElem?_getD, List.getElem?_take_of_lt hi, ← List.getD_eq_getElem?_getD]
  exact hc i (by omega)
/-- Whether two texts are the same, in the machine's words. -/
def same (a b : ByteArray) : Bool := a.toList == b.toList
set_option maxHeartbeats 1000000 in
theorem equal_any (A B : Option Addr) (n c m d : Nat) (xs ys : List Int) (w : World) (hx : Lies w A n xs) (hy : Lies w B m ys) :
    Calls Try.prog 39 #[.slice A n c, .slice B m d] w fun e w' => e = .returned (.bool (same (strOfNums xs) (strOfNums ys))) ∧ w' = w := by
  have h1 := hx.conv c
  have h2 := hy.conv d
  clear hx hy
  go_enter Try.func39, Try.ntmps39
  go_wp2_with fail
  go_ret
  exact ⟨rfl, rfl⟩
set_option maxHeartbeats 1000000 in
theorem prefix_any (A B : Option Addr) (n c m d : Nat) (xs ys : List Int) (w : World) (hn : n ≤ c) (hx : Lies w A n xs) (hy : Lies w B m ys) :
    Calls Try.prog 40 #[.slice A n c, .slice B m d] w fun e w' => e = .returned (.bool (decide (m ≤ n) && same (strOfNums (xs.take m)) (strOfNums ys))) ∧ w' = w := by
  by_cases h : m ≤ n
  · have he := fun c' => equal_any A B m c' m d (xs.take m) ys w (hx.take m h) hy
    have HE := Lib.hid he
    have b1 : decide ((m : Int) ≤ (n : Int)) = true := by simp; omega
    have b2 : decide (m ≤ n) = true := by simp; omega
    clear he hx hy
    go_enter Try.func40, Try.ntmps40
    go_wp2_with fail
    refine (HE.out _).mono ?_
    rintro e w1 ⟨rfl, rfl⟩
    go_wp2_with fail
    go_ret
    exact ⟨by simp [h], rfl⟩
  · have b1 : decide ((m : Int) ≤ (n : Int)) = false := by simp; omega
    have b2 : decide (m ≤ n) = false := by simp; omega
    clear hx hy
    go_enter Try.func40, Try.ntmps40
    go_wp2_with fail
    go_ret
    exact ⟨by simp [h], rfl⟩
end Go.Proofs.Ytccmflnkhabilaa.Tg
