/- A text of at most so many characters (spec.Sized): the walk. -/
import Derived.Test.YtdkhpngcomagnaaDoorSnA
import Derived.Laws.IdiomStrings
import Derived.Laws.Cover4
namespace Go.Proofs.YtdkhpngcomagnaaDoor.Sn
open Go.RowKit
set_option linter.unusedVariables false
set_option linter.unusedSimpArgs false
/-- The characters of a text. -/
def rsFrom (s : ByteArray) : Nat → Nat → List Int
  | 0, _ => []
  | n + 1, i => if i < s.size then Int.ofNat (Utf8.decode s i).1 :: rsFrom s n (i + (Utf8.decode s i).2) else []
theorem runes_list (s : ByteArray) : ∀ (n i : Nat) (acc : Array Value), Conv.runesFrom s n i acc = acc ++ ((rsFrom s n i).map (Value.int .i32)).toArray
  | 0, _, acc => by simp [Conv.runesFrom, rsFrom]
  | n + 1, i, acc => by
    unfold Conv.runesFrom rsFrom
    by_cases h : i < s.size
    · rw [if_pos h, if_pos h]
      show Conv.runesFrom s n (i + (Utf8.decode s i).2) (acc.push (.int .i32 (Int.ofNat (Utf8.decode s i).1))) = _
      rw [runes_list s n]
      simp
    · rw [if_neg h, if_neg h]
      simp
theorem rs_len (s : ByteArray) : ∀ (n i : Nat), (rsFrom s n i).length ≤ n
  | 0, _ => by simp [rsFrom]
  | n + 1, i => by
    unfold rsFrom
    split
    · have := rs_len s n (i + (Utf8.decode s i).2)
      simp
      omega
    · simp
/-- A text of at most 300 characters. -/
def sized (s : ByteArray) : ByteArray := runesBytes ((rsFrom s s.size 0).take 300)
theorem runes_run (s : ByteArray) (w : World) (hs : s.size ≤ 2147483647) : ∃ c w', (rsFrom s s.size 0).length ≤ c ∧ (convert 9 28 (.string s)).run Tryd.prog w = .ok (.slice (some ⟨w.heap.size, 0, none⟩) (rsFrom s s.size 0).length c) w' ∧ Below w.heap.size w w' ∧ w'.heap.size = w.heap.size + 1 ∧
    ∀ m, m ≤ (rsFrom s s.size 0).length → ∀ c', (convert 28 9 (.slice (some ⟨w.heap.size, 0, none⟩) m c')).run Tryd.prog w' = .ok (.string (runesBytes ((rsFrom s s.size 0).take m))) w' := by
  have hl := rs_len s s.size 0
  have he := runes_list s s.size 0 #[]
  rw [Array.empty_append] at he
  have hr := run_runes_of_string (P := Tryd.prog) w 9 28 21 s Tryd.underlying9 Tryd.underlying28 Tryd.underlying21 (by rw [he]; simp; omega)
  rw [he] at hr
  simp only [List.size_toArray, List.length_map] at hr
  obtain ⟨zs, hzs⟩ : ∃ zs, rsFrom s s.size 0 = zs := ⟨_, rfl⟩
  rw [hzs] at hr hl ⊢
  refine ⟨_, _, grownCap_ge _ _ _ _, hr, (Below.refl _ _).drew.alloc (Nat.le_refl _) _, by simp, fun m hm c' => ?_⟩
  refine run_convert_runes _ 28 9 21 ⟨w.heap.size, 0, none⟩ m c' zs hm Tryd.underlying28 Tryd.underlying21 Tryd.underlying9 (fun j hj => ?_)
  have e : (⟨w.heap.size, 0, none⟩ : Addr).add j = ⟨w.heap.size, j, none⟩ := by
    unfold Addr.add
    split
    · rename_i h; subst h; rfl
    · simp
  rw [e]
  have hh : ∀ C : Array Value, (w.drew.alloc (.cells C 21)).cell? ⟨w.heap.size, j, none⟩ = C[j]? := fun C => by
    have h1 : (w.drew.alloc (.cells C 21)).heap[w.heap.size]? = some (.cells C 21 (0, 0)) := by
      show (w.heap.push (.cells C 21))[w.heap.size]? = _
      simp
    unfold World.cell?
    show (match (w.drew.alloc (.cells C 21)).heap[w.heap.size]? with | some (.cells c _ _) => c[j]? | _ => none) = C[j]?
    rw [h1]
  rw [hh, Array.getElem?_append_left (by simp; exact hj)]
  simp [List.getD_eq_getElem?_getD, hj]
set_option maxHeartbeats 4000000 in
set_option maxRecDepth 100000 in
theorem sized_any (s : ByteArray) (w : World) (hs : s.size ≤ 2147483647) :
    Calls Tryd.prog 4 #[.string s, .int .i64 300] w fun e w' => e = .returned (.string (sized s)) ∧ Below w.heap.size w w' := by
  obtain ⟨c, w1, hc, hrun, hb, hsz, hback⟩ := runes_run s w hs
  have hl := rs_len s s.size 0
  unfold sized
  obtain ⟨zs, hzs⟩ : ∃ zs, rsFrom s s.size 0 = zs := ⟨_, rfl⟩
  rw [hzs] at hc hrun hl hback ⊢
  have HB := Lib.hid hb
  by_cases h : zs.length ≤ 300
  · have hk := hback zs.length (Nat.le_refl _)
    rw [show zs.take 300 = zs.take zs.length by rw [List.take_of_length_le h, List.take_of_length_le (Nat.le_refl _)]]
    obtain ⟨T, hT⟩ : ∃ T, runesBytes (zs.take zs.length) = T := ⟨_, rfl⟩
    rw [hT] at hk ⊢
    have h1 : decide ((zs.length : Int) ≤ 300) = true := by simp; omega
    have h2 : decide ((300 : Int) < (zs.length : Int)) = false := by simp; omega
    have h3 : (zs.length : Int) ≤ 300 := by omega
    have h4 : min (zs.length : Int) 300 = (zs.length : Int) := by omega
    clear hb hback hT
    go_enter Tryd.func4, Tryd.ntmps4
    go_wp2_with fail
    go_ret
    exact ⟨rfl, HB.out⟩
  · have hk := hback 300 (by omega)
    obtain ⟨T, hT⟩ : ∃ T, runesBytes (zs.take 300) = T := ⟨_, rfl⟩
    rw [hT] at hk ⊢
    have h1 : decide ((zs.length : Int) ≤ 300) = false := by simp; omega
    have h2 : decide ((300 : Int) < (zs.length : Int)) = true := by simp; omega
    have h3 : (300 : Int) ≤ (zs.length : Int) := by omega
    have h4 : min (zs.length : Int) 300 = 300 := by omega
    have h5 : (300 : Int) ≤ (c : Int) := by omega
    have h6 : 300 ≤ c := by omega
    clear hb hback hT
    go_enter Tryd.func4, Tryd.ntmps4
    go_wp2_with fail
    go_ret
    exact ⟨rfl, HB.out⟩
end Go.Proofs.YtdkhpngcomagnaaDoor.Sn
