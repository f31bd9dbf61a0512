/- The URI of a tag (yaml_parser_scan_tag_uri): what is held. -/
import Derived.Test.YtocbbekciphjgaaDoorTgA
import Derived.Laws.AppendOwn
namespace Go.Proofs.YtocbbekciphjgaaDoor.Sc
open Go.RowKit Go.Proofs.YtocbbekciphjgaaDoor.Rdp Go.Proofs.YtocbbekciphjgaaDoor.Pa
set_option linter.unusedVariables false
set_option linter.unusedSimpArgs false
/-- A slice of these bytes, in a block that is new; none without a byte. -/
def Fresh (lo : Nat) (w : World) (v : Value) (l : List Int) : Prop :=
  (v = .slice none 0 0 ∧ l = []) ∨ ∃ g c, v = .slice (some ⟨g, 0, none⟩) l.length c ∧ lo ≤ g ∧ l.length ≤ c ∧ c ≤ maxLen ∧ ∀ i, i < l.length → w.cell? ⟨g, 0 + i, none⟩ = some (.int .u8 (l.getD i 0))
theorem Fresh.kp {lo : Nat} {w w' : World} {v : Value} {l : List Int} {ps : List Nat} (h : Fresh lo w v l) (hk : Kp ps w w') (hp : ∀ b, lo ≤ b → b ∉ ps) : Fresh lo w' v l := by
  rcases h with h | ⟨g, c, h1, h2, h3, h4, h5⟩
  · exact .inl h
  · exact .inr ⟨g, c, h1, h2, h3, h4, fun i hi => kp_cell hk (h5 i hi) (hp g h2)⟩
theorem Fresh.low {lo lo2 : Nat} {w : World} {v : Value} {l : List Int} (h : Fresh lo w v l) (hl : lo2 ≤ lo) : Fresh lo2 w v l := by
  rcases h with h | ⟨g, c, h1, h2, h3⟩
  · exact .inl h
  · exact .inr ⟨g, c, h1, by omega, h3⟩
theorem Fresh.tx {lo : Nat} {w : World} {v : Value} {l : List Int} (h : Fresh lo w v l) : Tx w v l := by
  rcases h with h | ⟨g, c, h1, h2, h3, h4, h5⟩
  · exact .inl h
  · exact .inr ⟨g, c, h1, h5⟩
theorem Fresh.slice {lo : Nat} {w : World} {v : Value} {l : List Int} (h : Fresh lo w v l) : ∃ a n c, v = .slice a n c := by
  rcases h with ⟨h, _⟩ | ⟨g, c, h, _⟩
  · exact ⟨_, _, _, h⟩
  · exact ⟨_, _, _, h⟩
theorem Held.fresh {T : List Int} {lo c0 i : Nat} {v : Value} {w : World} (h : Held T lo c0 i v w) : Fresh lo w v ((List.range i).map fun j => S T (c0 + j)) := by
  rcases h with ⟨rfl, rfl⟩ | ⟨g, G, rfl, h2, h3, h4, h5, h6, h7⟩
  · exact .inl ⟨rfl, rfl⟩
  · have hi : i ≤ 32 := by
      apply Classical.byContradiction
      intro hh
      have := h6 32 (by omega)
      rw [List.getElem?_eq_none (by omega)] at this
      cases this
    refine .inr ⟨g, 32, by simp, h2, by simp; exact hi, by unfold maxLen; omega, fun j hj => ?_⟩
    have hj' : j < i := by simpa using hj
    rw [Nat.zero_add, (h4.cell j).1, h6 j hj']
    simp [List.getD_eq_getElem?_getD, hj']
/-- Where the scanner of a URI stands: i characters have been read. -/
def Uri (k : Kn) (p c mi mc n lo sb : Nat) (L : List Value) (w0 : World) (v0 : Value) (l0 : List Int) (i : Nat) (w : World) : Prop :=
  i ≤ n ∧ Moved k p c i mi mc L (sb :: k.bs p) w0 w ∧ ∃ v, Bk w sb 22 [v] ∧ ((i = 0 ∧ v = v0 ∧ Fresh lo w v0 l0) ∨ (1 ≤ i ∧ Held k.T lo c i v w))
theorem Uri.upd {k : Kn} {p c mi mc n lo sb i u m : Nat} {z : Int} {L L1 : List Value} {w0 w w' : World} {v v0 : Value} {l0 : List Int} (hu : Upd k p (c + i) u m L1 w w') (h24 : L1[24]? = some (.int .i64 (mi + i : Nat))) (h26 : L1[26]? = some (.int .i64 (mc + i : Nat))) (h19 : L1[19]? = some (.int .i64 z)) (ho : ∀ j, rdOff j → j ≠ 19 → j ≠ 24 → j ≠ 26 → L1[j]? = L[j]?)
    (hk : Kp (sb :: k.bs p) w0 w) (hi : i ≤ n) (hb : Bk w sb 22 [v]) (hh : (i = 0 ∧ v = v0 ∧ Fresh lo w v0 l0) ∨ (1 ≤ i ∧ Held k.T lo c i v w)) (hlo : ∀ g, lo ≤ g → g ∉ k.bs p) (hsb : sb ∉ k.bs p) : Uri k p c mi mc n lo sb L w0 v0 l0 i w' := by
  refine ⟨hi, moved_upd hu h24 h26 h19 ho hk (fun _ h => List.mem_cons_of_mem _ h), v, ?_, ?_⟩
  · obtain ⟨u', bp', bl', L', h1, h2, h3, h4, h5, h6, h7⟩ := hu
    exact hb.kp h6 hsb
  · obtain ⟨u', bp', bl', L', h1, h2, h3, h4, h5, h6, h7⟩ := hu
    rcases hh with ⟨a, b, d⟩ | ⟨a, d⟩
    · exact .inl ⟨a, b, d.kp h6 hlo⟩
    · exact .inr ⟨a, d.kp h6 hlo⟩
end Go.Proofs.YtocbbekciphjgaaDoor.Sc
