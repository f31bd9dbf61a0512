/- A letter of a name is read (read), whether it is the first or another: the contract. -/
import Derived.Test.YtocbbekciphjgaaDoorAnB
import Derived.Test.YtocbbekciphjgaaDoorAnC
namespace Go.Proofs.YtocbbekciphjgaaDoor.Sc
open Go.RowKit Go.Proofs.YtocbbekciphjgaaDoor.Rdp Go.Proofs.YtocbbekciphjgaaDoor.Pa
set_option linter.unusedVariables false
set_option linter.unusedSimpArgs false
/-- A block that is younger than a parser has nothing to do with it. -/
theorem far_new {k : Kn} {p c u bp bl : Nat} {L : List Value} {w : World} (h : Rdr k p c u bp bl L w) {g : Nat} (hg : w.heap.size ≤ g) : Far k p g := by
  obtain ⟨rl, rpos, ip, eof, RL, BL, st, hl, _⟩ := h.ex
  have l3 := hl.pb.lt
  have l4 := hl.rb.lt
  have l5 := hl.qb.lt
  have l6 : 2 < w.heap.size := World.block_lt_of_cell? w ⟨2, 0, none⟩ hl.ev
  refine ⟨by unfold Kn.bs; simp; omega, by omega, fun o e => ?_⟩
  rcases hl.inp with h0 | ⟨b', o', e', h1, _⟩
  · exact h0
  · rw [e] at e'
    simp only [Option.some.injEq, Addr.mk.injEq] at e'
    omega
/-- What is written to blocks that are new changes nothing that was there. -/
theorem Kp.trans_new {ps qs : List Nat} {w0 w1 w2 : World} (h : Kp ps w0 w1) (h2 : Kp qs w1 w2) (hq : ∀ b ∈ qs, b ∈ ps ∨ w0.heap.size ≤ b) : Kp ps w0 w2 :=
  ⟨h2.os.trans h.os, h2.tape.trans h.tape, h2.output.trans h.output, Nat.le_trans h.size h2.size, fun i h1 h3 => (h2.block i (by have := h.size; omega) (fun hh => by rcases hq i hh with a | a; exact h3 a; omega)).trans (h.block i h1 h3)⟩
/-- A slice of the bytes from c0 on, i of them, in a block that is new; none without one. -/
def Held (T : List Int) (lo c0 i : Nat) (v : Value) (w : World) : Prop :=
  (i = 0 ∧ v = .slice none 0 0) ∨ ∃ g G, v = .slice (some ⟨g, 0, none⟩) i 32 ∧ lo ≤ g ∧ 1 ≤ i ∧ Bk w g 5 G ∧ G.length = 32 ∧ (∀ j, j < i → G[j]? = some (.int .u8 (S T (c0 + j)))) ∧ ∀ j, j < 32 → ∃ y, G[j]? = some (.int .u8 y)
theorem Held.kp {T : List Int} {lo c0 i : Nat} {v : Value} {w w' : World} {ps : List Nat} (h : Held T lo c0 i v w) (hk : Kp ps w w') (hp : ∀ b, lo ≤ b → b ∉ ps) : Held T lo c0 i v w' := by
  rcases h with h | ⟨g, G, h1, h2, h3, h4, h5, h6, h7⟩
  · exact .inl h
  · exact .inr ⟨g, G, h1, h2, h3, h4.kp hk (hp g h2), h5, h6, h7⟩
theorem zeros_at (j n : Nat) (h : j < n) : (zeros n)[j]? = some (.int .u8 0) := by unfold zeros; simp [h]
theorem read_al (k : Kn) (p c u bp bl mi mc c0 i lo : Nat) (z x : Int) (v : Value) (L : List Value) (w : World) (h : Rdr k p c (u + 1) bp bl L w) (h24 : L[24]? = some (.int .i64 (mi : Nat))) (h26 : L[26]? = some (.int .i64 (mc : Nat))) (h19 : L[19]? = some (.int .i64 z)) (hmi : mi ≤ 1000000000000) (hmc : mc ≤ 1000000000000) (hu : u ≤ 1000000)
    (hS : S k.T c = x) (hx0 : 33 ≤ x) (hx1 : x < 128) (hc : c = c0 + i) (hi : i < 31) (hv : Held k.T lo c0 i v w) (hlo : lo ≤ w.heap.size) (hfar : ∀ g, lo ≤ g → Far k p g) :
    Calls Tryd.prog 109 #[.pointer (some ⟨p, 0, none⟩), v] w fun e w' => ∃ v' L', e = .returned v' ∧ Held k.T lo c0 (i + 1) v' w' ∧ Rdr k p (c + 1) u (bp + 1) bl L' w' ∧ (L'[24]? = some (.int .i64 (mi + 1 : Nat)) ∧ L'[26]? = some (.int .i64 (mc + 1 : Nat)) ∧ (∃ z, L'[19]? = some (.int .i64 z)) ∧ (∀ j, j ≠ 17 → j ≠ 18 → j ≠ 19 → j ≠ 24 → j ≠ 26 → L'[j]? = L[j]?)) ∧ ∃ qs, Kp (p :: qs) w w' ∧ ∀ b ∈ qs, lo ≤ b := by
  rcases hv with ⟨rfl, rfl⟩ | ⟨g, G, rfl, h2, h3, h4, h5, h6, h7⟩
  · refine (read_first k p c u bp bl mi mc z x L w h h24 h26 h19 hmi hmc hu hS hx0 hx1).mono ?_
    rintro e w' ⟨g, L', rfl, hg, hr, hcs, hb, hk⟩
    refine ⟨_, L', rfl, .inr ⟨g, _, rfl, by omega, by omega, hb, by simp [zeros], fun j hj => ?_, fun j hj => ?_⟩, hr, hcs, [], hk, by simp⟩
    · obtain rfl : j = 0 := by omega
      rw [lset_at (by simp [zeros]), ← hS, hc]
    · by_cases hj0 : j = 0
      · rw [hj0, lset_at (by simp [zeros])]; exact ⟨_, rfl⟩
      · rw [lset_ne hj0, zeros_at j 32 hj]; exact ⟨_, rfl⟩
  · obtain ⟨y, hy⟩ := h7 i (by omega)
    refine (read_room k p c u bp bl mi mc g i z x L G w h h24 h26 h19 hmi hmc hu hS hx0 hx1 h4 h5 h3 (by omega) (hfar g h2) y hy).mono ?_
    rintro e w' ⟨rfl, ⟨L', hr, h241, h261, h191, ho⟩, hb, hk⟩
    refine ⟨_, L', rfl, .inr ⟨g, _, rfl, h2, by omega, hb, by simp [h5], fun j hj => ?_, fun j hj => ?_⟩, hr, ⟨h241, h261, h191, ho⟩, [g], hk, by simp [h2]⟩
    · by_cases hji : j = i
      · rw [hji, lset_at (by omega), ← hS, hc]
      · rw [lset_ne hji]; exact h6 j (by omega)
    · by_cases hji : j = i
      · rw [hji, lset_at (by omega)]; exact ⟨_, rfl⟩
      · rw [lset_ne hji]; exact h7 j hj
end Go.Proofs.YtocbbekciphjgaaDoor.Sc
