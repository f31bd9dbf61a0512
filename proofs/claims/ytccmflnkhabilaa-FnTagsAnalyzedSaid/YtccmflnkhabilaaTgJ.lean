/- FnTagsAnalyzed: the law's walk, for all arguments. -/
import Derived.Test.YtccmflnkhabilaaTgI
import Derived.Test.YtccmflnkhabilaaDirN
namespace Go.Proofs.Ytccmflnkhabilaa.Tg
open Go.RowKit Go.Proofs.Ytccmflnkhabilaa.DirL
set_option linter.unusedVariables false
def isStrs (w : World) (a : Option Addr) (len cap : Nat) (S : Nat → ByteArray) : Prop :=
  (a = none ∧ len = 0 ∧ cap = 0) ∨
  ∃ x, a = some x ∧ len ≤ cap ∧ cap ≤ maxLen ∧ ∀ i, i < len → w.cell? (x.add i) = some (.string (S i)) ∧ (S i).size ≤ maxLen
/-- Strings as they are handed in. -/
theorem strs_of {w : World} {a : Option Addr} {len cap : Nat} {S : Nat → ByteArray} (h : isStrs w a len cap S) : ∃ S', Strs w a len S' ∧ (∀ i, (S' i).size ≤ 9223372036854775807) ∧ len ≤ cap ∧ len ≤ 9223372036854775807 := by
  rcases h with ⟨rfl, rfl, rfl⟩ | ⟨⟨b, o, sp⟩, rfl, hl, hm, hc⟩
  · exact ⟨fun _ => ⟨#[]⟩, .inl rfl, fun _ => by simp [ByteArray.size], Nat.le_refl _, by omega⟩
  · refine ⟨fun i => if i < len then S i else ⟨#[]⟩, ?_, fun i => ?_, hl, by unfold maxLen at hm; omega⟩
    · by_cases h0 : len = 0
      · exact .inl h0
      · have c0 := (hc 0 (by omega)).1
        obtain rfl : sp = none := by simpa [Addr.add] using World.cell?_spot c0
        refine .inr ⟨b, o, rfl, cell_lt (a := ⟨b, o, none⟩) (by simpa [Addr.add] using c0), fun i hi => ?_⟩
        show _ = some (Value.string (if i < len then S i else ⟨#[]⟩))
        rw [if_pos hi, ← (hc i hi).1, addr_add]
    · show (if i < len then S i else (⟨#[]⟩ : ByteArray)).size ≤ _
      by_cases h : i < len
      · rw [if_pos h]
        have := (hc i h).2
        unfold maxLen at this
        omega
      · rw [if_neg h]; simp [ByteArray.size]
theorem law_tags (a0 : Option Addr) (len0 cap0 : Nat) (z0 : List Int) (a1 : Option Addr) (len1 cap1 : Nat) (z1 : Nat → ByteArray) (a2 : Option Addr) (len2 cap2 : Nat) (z2 : Nat → ByteArray) (W : World) (w0 : isRow .u8 W a0 len0 cap0 z0) (y0 : len0 * 1 ≤ 140737488351232) (w1 : isStrs W a1 len1 cap1 z1) (w2 : isStrs W a2 len2 cap2 z2) :
    Calls Try.prog 4 #[.slice a0 len0 cap0, .slice a1 len1 cap1, .slice a2 len2 cap2] W fun e w' => e = .returned (.bool true) ∧ Below W.heap.size W w' := by
  obtain ⟨H, hH, hzh, hch, hmh⟩ := strs_of w1
  obtain ⟨P, hP, hzp, hcp, hmp⟩ := strs_of w2
  by_cases ht : len0 = 0 ∨ 1024 < len0
  · exact law_off a0 len0 cap0 len1 cap1 len2 cap2 a1 a2 H P W ht (by omega) hH hP hmh hmp hzh hzp
  by_cases hbig : 2147483647 < len1 ∨ 2147483647 < len2
  · exact law_wide a0 len0 cap0 len1 cap1 len2 cap2 a1 a2 H P W (by omega) hH hP hmh hmp hzh hzp hbig
  obtain ⟨b, o, rfl, hb, hc, hr⟩ := row_of w0 (by omega)
  have hcap : len0 ≤ cap0 := by
    rcases w0 with ⟨h, _⟩ | ⟨x, _, h, _⟩
    · cases h
    · exact h
  have hlz : (z0.take len0).length = len0 := by
    rcases w0 with ⟨h, _⟩ | ⟨x, _, h, _, h2, _⟩
    · cases h
    · rw [List.length_take]; omega
  refine law_in b o len0 cap0 len1 cap1 len2 cap2 a1 a2 (z0.take len0) H P W (by omega) (by omega) hcap ⟨hlz, fun _ => ⟨b, o, rfl, hb, fun i hi => ?_⟩⟩ hH hP (by omega) (by omega) hch hcp hzh hzp
  rw [hc i hi, List.getD_eq_getElem?_getD, List.getD_eq_getElem?_getD, List.getElem?_take_of_lt hi]
end Go.Proofs.Ytccmflnkhabilaa.Tg
