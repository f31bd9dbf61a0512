/- QhB, QhC, QhD: parts of the proof, one behind another. -/
import Derived.Deep.AppendLies
import Derived.OwnWalk
import Derived.Test.YtocbbekciphjgaaDoorMh5
import Derived.Test.YtocbbekciphjgaaDoorMh12
/- QhB -/
/- A comment is laid behind none, in whatever order the operations come: what holds while it is done; the parts of yaml_parser_scan_line_comment. Printed by genQh.py. -/
namespace Go.Proofs.YtocbbekciphjgaaDoor.Cm
open Go.RowKit Go.Proofs.YtocbbekciphjgaaDoor.Rdp Go.Proofs.YtocbbekciphjgaaDoor.Pa Go.Proofs.YtocbbekciphjgaaDoor.Sc Go.Proofs.YtocbbekciphjgaaDoor.Qd Go.Proofs.YtocbbekciphjgaaDoor.Bs
set_option linter.unusedVariables false
set_option linter.unusedSimpArgs false
/-- The same memory. -/
structure Same (w w' : World) : Prop where
  heap : w'.heap = w.heap
  os : w'.os = w.os
  tape : w'.tape = w.tape
  output : w'.output = w.output
theorem Same.cell {w w' : World} (h : Same w w') (a : Addr) : w'.cell? a = w.cell? a := by unfold World.cell?; rw [h.heap]
theorem Same.frozen {w w' : World} (h : Same w w') (a : Addr) : w'.frozen? a = w.frozen? a := by unfold World.frozen?; rw [h.heap]
theorem Same.alloc {w w' : World} (h : Same w w') (o : Obj) : Same (w.alloc o) (w'.alloc o) := ⟨by show w'.heap.push o = w.heap.push o; rw [h.heap], h.os, h.tape, h.output⟩
theorem Same.below {w w' : World} (h : Same w w') (B : Nat) : Below B w w' := ⟨h.os, h.tape, h.output, by rw [h.heap]; exact Nat.le_refl _, fun k _ => by rw [h.heap]⟩
theorem upd_off {vs : Nat → Value} {i k : Nat} {v : Value} (h : k ≠ i) : Sp.upd vs i v k = vs k := by unfold Sp.upd; rw [if_neg h]
theorem upd_on {vs : Nat → Value} {i : Nat} {v : Value} : Sp.upd vs i v i = v := by unfold Sp.upd; rw [if_pos rfl]
theorem alloc_new (w : World) (x : Obj) : (w.alloc x).heap[w.heap.size]? = some x := by
  show (w.heap.push x)[w.heap.size]? = _
  rw [Array.getElem?_push, if_pos rfl]
theorem beq_no {i k : Nat} {b : Bool} (h : i ≠ k) : (k == i || b) = b := by
  rw [show (k == i) = false by simpa using (Ne.symm h), Bool.false_or]
/-- A comment. -/
def fif (t0 t1 t2 s0 s1 s2 : Int) (v : Value) : List Value := [.int .i64 0, .int .i64 0, .int .i64 0, .int .i64 t0, .int .i64 t1, .int .i64 t2, .int .i64 s0, .int .i64 s1, .int .i64 s2, .int .i64 0, .int .i64 0, .int .i64 0, .slice none 0 0, v, .slice none 0 0]
def cobj (F : List Value) : Obj := .cells F.toArray 180
/-- What holds while it is laid behind none. -/
def R14 (p : Nat) (F : List Value) (w3 : World) (L : Nat → Bool) (vs : Nat → Value) (w : World) : Prop :=
  (L 9 = false ∧ L 10 = false ∧ L 13 = false ∧ Same w3 w) ∨
  (L 9 = true ∧ L 10 = false ∧ L 13 = false ∧ vs 9 = .slice (some ⟨w3.heap.size, 0, none⟩) 1 1 ∧ Same (w3.alloc (cobj F)) w) ∨
  (L 9 = true ∧ L 10 = true ∧ ∃ g cap w5, vs 10 = .slice (some ⟨g, 0, none⟩) 1 cap ∧ Below w3.heap.size w3 w5 ∧
    ((L 13 = false ∧ w = w5) ∨ (L 13 = true ∧ w = w5.setCell ⟨p, 32, none⟩ (.slice (some ⟨g, 0, none⟩) 1 cap))))
theorem R14.pure {p : Nat} {F : List Value} {w3 : World} {L : Nat → Bool} {vs : Nat → Value} {w : World} (h : R14 p F w3 L vs w) (i : Nat) (v : Value) (h9 : i ≠ 9) (h10 : i ≠ 10) (h13 : i ≠ 13) :
    R14 p F w3 (fun j => j == i || L j) (Sp.upd vs i v) w := by
  unfold R14 at *
  simp only
  rw [beq_no h9, beq_no h10, beq_no h13, upd_off (Ne.symm h9), upd_off (Ne.symm h10)]
  exact h
theorem R14.cell {p : Nat} {F : List Value} {w3 : World} {L : Nat → Bool} {vs : Nat → Value} {w : World} (h : R14 p F w3 L vs w) (h10 : L 10 = false) (a : Addr) (ha : a.block < w3.heap.size) : w.cell? a = w3.cell? a := by
  rcases h with ⟨_, _, _, h⟩ | ⟨_, _, _, _, h⟩ | ⟨_, h, _⟩
  · exact h.cell a
  · rw [h.cell a]; exact World.cell?_alloc_lt _ _ _ ha
  · rw [h10] at h; cases h
theorem R14.built {p : Nat} {F : List Value} {w3 : World} {L : Nat → Bool} {vs : Nat → Value} {w : World} (h : R14 p F w3 L vs w) (h9 : L 9 = false) :
    R14 p F w3 (fun j => j == 9 || L j) (Sp.upd vs 9 (.slice (some ⟨w.heap.size, 0, none⟩) 1 1)) (w.alloc (cobj F)) := by
  rcases h with ⟨_, h10, h13, h⟩ | ⟨h, _⟩ | ⟨h, _⟩
  · refine .inr (.inl ⟨rfl, (beq_no (by decide)).trans h10, (beq_no (by decide)).trans h13, by rw [upd_on, h.heap], h.alloc _⟩)
  · rw [h9] at h; cases h
  · rw [h9] at h; cases h
theorem info180 : (Tryd.prog.info? 180).map (fun i => (i.zero, i.size, i.bytes)) = some (some (.agg (fif 0 0 0 0 0 0 (.slice none 0 0)).toArray), 15, 168) := by kernel_rfl
theorem fif_one (t0 t1 t2 s0 s1 s2 : Int) (x : Option Addr) (n c : Nat) : ∀ u ∈ fif t0 t1 t2 s0 s1 s2 (.slice x n c), u.oneCell' = true := by
  intro u hu
  unfold fif at hu
  simp only [List.mem_cons, List.not_mem_nil, or_false] at hu
  rcases hu with rfl | rfl | rfl | rfl | rfl | rfl | rfl | rfl | rfl | rfl | rfl | rfl | rfl | rfl | rfl <;> rfl
theorem R14.append {p : Nat} {t0 t1 t2 s0 s1 s2 : Int} {x : Option Addr} {n c : Nat} {w3 : World} {L : Nat → Bool} {vs : Nat → Value} {w : World} (h : R14 p (fif t0 t1 t2 s0 s1 s2 (.slice x n c)) w3 L vs w) (h9 : L 9 = true) (h10 : L 10 = false) (ty : TypeId) :
    vs 9 = .slice (some ⟨w3.heap.size, 0, none⟩) 1 1 ∧ ∃ g cap w5, (Builtin.append_ #[108, 108] ty #[.slice none 0 0, .slice (some ⟨w3.heap.size, 0, none⟩) 1 1]).run Tryd.prog w = .ok (.slice (some ⟨g, 0, none⟩) 1 cap) w5 ∧
      R14 p (fif t0 t1 t2 s0 s1 s2 (.slice x n c)) w3 (fun j => j == 10 || L j) (Sp.upd vs 10 (.slice (some ⟨g, 0, none⟩) 1 cap)) w5 := by
  rcases h with ⟨h, _⟩ | ⟨_, _, h13, hv, h⟩ | ⟨_, h, _⟩
  · rw [h9] at h; cases h
  · refine ⟨hv, ?_⟩
    obtain ⟨i0, hi0, hz0, hz1, hz2⟩ := info_parts info180
    have hsz : w.heap.size = w3.heap.size + 1 := by rw [h.heap]; simp
    have hget : w.heap[w3.heap.size]? = some (.cells (fif t0 t1 t2 s0 s1 s2 (.slice x n c)).toArray 180 (0, 0)) := by rw [h.heap]; exact alloc_new _ _
    obtain ⟨g, cap, w5, hr, h2, h3, h4, h5⟩ := run_append_lies (P := Tryd.prog) (w := w) 108 ty w3.heap.size 180 i0 (.agg (fif 0 0 0 0 0 0 (.slice none 0 0)).toArray) 15 168 (by kernel_rfl) hi0 hz0 hz1 hz2 rfl (by omega) (.slice none 0 0) 0 [] (World.ownsRow_nil w w3.heap.size 180 15) ⟨w3.heap.size, 0, none⟩ 1 1 (fif t0 t1 t2 s0 s1 s2 (.slice x n c)) rfl (World.news_of_block hget) (fif_one _ _ _ _ _ _ _ _ _) (by omega) (by unfold maxLen; omega) (by omega) (by omega) (w3.heap.size + 1) hsz
    have hkp : Kp [] w w5 := grown_kp h3 (fun b hb => by cases hb)
    refine ⟨g, cap, w5, hr, .inr (.inr ⟨(beq_no (by decide)).trans h9, rfl, g, cap, w5, upd_on, ?_, .inl ⟨(beq_no (by decide)).trans h13, rfl⟩⟩)⟩
    have hb1 : Below w3.heap.size w3 (w3.alloc (cobj (fif t0 t1 t2 s0 s1 s2 (.slice x n c)))) := (Below.refl _ _).alloc (Nat.le_refl _) _
    exact (hb1.trans (h.below _)).trans (hkp.below (by omega) (fun k hk => by cases hk))
  · rw [h10] at h; cases h
theorem R14.store {p : Nat} {F : List Value} {w3 : World} {L : Nat → Bool} {vs : Nat → Value} {w : World} (h : R14 p F w3 L vs w) (h10 : L 10 = true) (h13 : L 13 = false) (u : Value) (hp : p < w3.heap.size) (hc : w3.cell? ⟨p, 32, none⟩ = some (.slice none 0 0)) (hf : w3.frozen? ⟨p, 32, none⟩ = false) :
    ∃ g cap, vs 10 = .slice (some ⟨g, 0, none⟩) 1 cap ∧ w.cell? ⟨p, 32, none⟩ = some (.slice none 0 0) ∧ w.frozen? ⟨p, 32, none⟩ = false ∧
      R14 p F w3 (fun j => j == 13 || L j) (Sp.upd vs 13 u) (w.setCell ⟨p, 32, none⟩ (.slice (some ⟨g, 0, none⟩) 1 cap)) := by
  rcases h with ⟨_, h, _⟩ | ⟨_, h, _⟩ | ⟨h9, _, g, cap, w5, hv, hb, ⟨_, rfl⟩ | ⟨h, _⟩⟩
  · rw [h10] at h; cases h
  · rw [h10] at h; cases h
  · refine ⟨g, cap, hv, ?_, ?_, .inr (.inr ⟨(beq_no (by decide)).trans h9, (beq_no (by decide)).trans h10, g, cap, w, by rw [upd_off (by decide)]; exact hv, hb, .inr ⟨rfl, rfl⟩⟩)⟩
    · rw [hb.cell (p := ⟨p, 32, none⟩) hp]; exact hc
    · rw [hb.frozen (p := ⟨p, 32, none⟩) hp]; exact hf
  · rw [h13] at h; cases h
def S14 (p : Nat) (t0 t1 t2 s0 s1 s2 : Int) (v0 : Value) : Nat → Value → World → Prop
  | 0, v, _ => v = .pointer (some ⟨p, 0, none⟩)
  | 1, v, _ => v = .pointer (some ⟨p, 0, none⟩)
  | 2, v, _ => v = .pointer (some ⟨p, 0, none⟩)
  | 3, v, _ => v = .pointer (some ⟨p, 32, none⟩)
  | 4, v, _ => v = .slice none 0 0
  | 5, v, _ => v = .agg #[.int .i64 t0, .int .i64 t1, .int .i64 t2]
  | 6, v, _ => v = .agg #[.int .i64 s0, .int .i64 s1, .int .i64 s2]
  | 7, v, _ => v = v0
  | 8, v, _ => v = .agg (fif t0 t1 t2 s0 s1 s2 v0).toArray
  | 9, v, _ => ∃ b, v = .slice (some ⟨b, 0, none⟩) 1 1
  | 10, v, _ => ∃ g c, v = .slice (some ⟨g, 0, none⟩) 1 c
  | 11, v, _ => v = .pointer (some ⟨p, 0, none⟩)
  | 12, v, _ => v = .pointer (some ⟨p, 32, none⟩)
  | _, _, _ => True
theorem s14_mono {p : Nat} {t0 t1 t2 s0 s1 s2 : Int} {v0 : Value} : ∀ (i : Nat) (v : Value) (w w' : World), True → S14 p t0 t1 t2 s0 s1 s2 v0 i v w → S14 p t0 t1 t2 s0 s1 s2 v0 i v w' := by
  intro i v w w' _ h
  unfold S14 at *
  split at h <;> simp_all
theorem bs108 (t0 t1 t2 s0 s1 s2 : Int) (x : Option Addr) (n c : Nat) (w : World) : (Instr.buildSlice 108 1 #[(0, .agg (fif t0 t1 t2 s0 s1 s2 (.slice x n c)).toArray)]).run Tryd.prog w = .ok (.slice (some ⟨w.heap.size, 0, none⟩) 1 1) (w.alloc (cobj (fif t0 t1 t2 s0 s1 s2 (.slice x n c)))) := by kernel_rfl
theorem bld180 (t0 t1 t2 s0 s1 s2 : Int) (x : Option Addr) (n c : Nat) (w : World) : (Instr.build 180 #[(1, .agg #[.int .i64 t0, .int .i64 t1, .int .i64 t2]), (2, .agg #[.int .i64 s0, .int .i64 s1, .int .i64 s2]), (5, .slice x n c)]).run Tryd.prog w = .ok (.agg (fif t0 t1 t2 s0 s1 s2 (.slice x n c)).toArray) w := by kernel_rfl
noncomputable def kA : Code := Tryd.f122.body.getD .skip
noncomputable def k0 : Code := Qd.part [0] kA
noncomputable def kN : Code := Qd.part [1, 0] kA
noncomputable def k3 : Code := Qd.part [1, 1, 0] kA
noncomputable def k4 : Code := Qd.part [1, 1, 1, 0] kA
noncomputable def k5 : Code := Qd.part [1, 1, 1, 1, 0, 0] kA
noncomputable def kB : Code := Qd.part [1, 1, 1, 1, 0, 1, 0, 0] kA
noncomputable def kZ : Code := Qd.part [1, 1, 1, 1, 1, 0] kA
noncomputable def k26 : Code := Qd.part [1, 1, 1, 1, 1, 1] kA
noncomputable def k6 : Code := Qd.part [0] kB
noncomputable def kI : Code := Qd.part [1, 0, 0] kB
noncomputable def k7 : Code := Qd.part [1, 1] kB
noncomputable def k8 : Code := Qd.part [0] kI
noncomputable def k9 : Code := Qd.part [1, 0] kI
noncomputable def k10 : Code := Qd.part [1, 1, 0, 0] kI
noncomputable def k11 : Code := Qd.part [1, 1, 0, 1, 0, 0] kI
noncomputable def kX : Code := Qd.part [1, 1, 0, 1, 0, 1, 0, 0, 0] kI
noncomputable def kU12 : Code := Qd.part [0] kX
noncomputable def k14 : Code := Qd.part [1, 0] kX
noncomputable def kT : Code := Qd.part [1, 1, 0, 0] kX
noncomputable def kJ : Code := Qd.part [1, 1, 0, 1] kX
noncomputable def k19 : Code := Qd.part [1, 1, 1, 0] kX
noncomputable def k20 : Code := Qd.part [1, 1, 1, 1, 0, 0] kX
noncomputable def k22 : Code := Qd.part [1, 1, 1, 1, 0, 1] kX
noncomputable def k23 : Code := Qd.part [1, 1, 1, 1, 1] kX
noncomputable def k24 : Code := Qd.part [0] kZ
noncomputable def k25 : Code := Qd.part [1, 0] kZ
theorem kA_eq : kA = .seq k0 (.seq kN (.seq k3 (.seq k4 (.seq (.seq k5 (.block 0 (.loop kB))) (.seq kZ k26))))) := by kernel_rfl
theorem kB_eq : kB = .seq k6 (.seq (.block 1 kI) k7) := by kernel_rfl
theorem kI_eq : kI = .seq k8 (.seq k9 (.seq (.seq k10 (.cond (.tmp 55) (.seq k11 (.block 2 (.loop (.block 3 kX)))) .skip)) (.exit 0))) := by kernel_rfl
theorem kX_eq : kX = .seq kU12 (.seq k14 (.cond (.tmp 81) (.seq kT kJ) (.seq k19 (.cond (.tmp 107) (.seq k20 k22) k23)))) := by kernel_rfl
theorem kZ_eq : kZ = .seq k24 (.cond (.tmp 122) k25 .skip) := by kernel_rfl
theorem kbody_eq : Tryd.f122.body = some kA := by kernel_rfl
set_option maxRecDepth 1000000 in
theorem lit136 (a : Act) (h : a.tmps.size = 136) (hd : a.defers = []) : a = ⟨#[gt a 0, gt a 1, gt a 2, gt a 3, gt a 4, gt a 5, gt a 6, gt a 7, gt a 8, gt a 9, gt a 10, gt a 11, gt a 12, gt a 13, gt a 14, gt a 15, gt a 16, gt a 17, gt a 18, gt a 19, gt a 20, gt a 21, gt a 22, gt a 23, gt a 24, gt a 25, gt a 26, gt a 27, gt a 28, gt a 29, gt a 30, gt a 31, gt a 32, gt a 33, gt a 34, gt a 35, gt a 36, gt a 37, gt a 38, gt a 39, gt a 40, gt a 41, gt a 42, gt a 43, gt a 44, gt a 45, gt a 46, gt a 47, gt a 48, gt a 49, gt a 50, gt a 51, gt a 52, gt a 53, gt a 54, gt a 55, gt a 56, gt a 57, gt a 58, gt a 59, gt a 60, gt a 61, gt a 62, gt a 63, gt a 64, gt a 65, gt a 66, gt a 67, gt a 68, gt a 69, gt a 70, gt a 71, gt a 72, gt a 73, gt a 74, gt a 75, gt a 76, gt a 77, gt a 78, gt a 79, gt a 80, gt a 81, gt a 82, gt a 83, gt a 84, gt a 85, gt a 86, gt a 87, gt a 88, gt a 89, gt a 90, gt a 91, gt a 92, gt a 93, gt a 94, gt a 95, gt a 96, gt a 97, gt a 98, gt a 99, gt a 100, gt a 101, gt a 102, gt a 103, gt a 104, gt a 105, gt a 106, gt a 107, gt a 108, gt a 109, gt a 110, gt a 111, gt a 112, gt a 113, gt a 114, gt a 115, gt a 116, gt a 117, gt a 118, gt a 119, gt a 120, gt a 121, gt a 122, gt a 123, gt a 124, gt a 125, gt a 126, gt a 127, gt a 128, gt a 129, gt a 130, gt a 131, gt a 132, gt a 133, gt a 134, gt a 135], []⟩ := act_lit 136 a h hd
end Go.Proofs.YtocbbekciphjgaaDoor.Cm
/- QhC -/
/- A comment is laid behind none (yaml_parser_scan_line_comment): the walk. Printed by genQh.py. -/
namespace Go.Proofs.YtocbbekciphjgaaDoor.Cm
open Go.RowKit Go.Proofs.YtocbbekciphjgaaDoor.Rdp Go.Proofs.YtocbbekciphjgaaDoor.Pa Go.Proofs.YtocbbekciphjgaaDoor.Sc Go.Proofs.YtocbbekciphjgaaDoor.Qd Go.Proofs.YtocbbekciphjgaaDoor.Bs
set_option linter.unusedVariables false
set_option linter.unusedSimpArgs false
set_option maxHeartbeats 32000000 in
set_option maxRecDepth 100000 in
theorem t25 {p tm sm n c : Nat} {t0 t1 t2 s0 s1 s2 : Int} {x : Option Addr} {a : Act} {w : World} {K : Act → World → Prop} {Q : Exit → Act → World → Prop} (hz : a.tmps.size = 136) (hdf : a.defers = []) (h0 : gt a 0 = .pointer (some ⟨p, 0, none⟩)) (h3 : gt a 3 = .pointer (some ⟨tm, 0, none⟩)) (h5 : gt a 5 = .pointer (some ⟨sm, 0, none⟩)) (h6 : gt a 6 = .slice x n c)
    (htm : Bk w tm 74 [.int .i64 t0, .int .i64 t1, .int .i64 t2]) (hsm : Bk w sm 74 [.int .i64 s0, .int .i64 s1, .int .i64 s2]) (hp : p < w.heap.size) (hc32 : w.cell? ⟨p, 32, none⟩ = some (.slice none 0 0)) (hf32 : w.frozen? ⟨p, 32, none⟩ = false)
    (hK : ∀ a' w5 v, a'.tmps.size = 136 → a'.defers = [] → Below w.heap.size w w5 → K a' (w5.setCell ⟨p, 32, none⟩ v)) :
    k25.wp Tryd.prog (Exit.then K Q) a w := by
  have HKK := Lib.hid hK
  have HTM := Lib.hid htm
  have HSM := Lib.hid hsm
  have HP := Lib.hid hp
  have HC32 := Lib.hid hc32
  have HF32 := Lib.hid hf32
  rw [lit136 a hz hdf, h0, h3, h5, h6]
  clear hK htm hsm hp hc32 hf32 hz hdf h0 h3 h5 h6
  conv => arg 2; whnf
  refine Sp.region_specs_v (by kernel_rfl) _ (by kernel_rfl) (by kernel_rfl) (by kernel_rfl) rfl (by kernel_rfl) (S14 p t0 t1 t2 s0 s1 s2 (.slice x n c)) (R14 p (fif t0 t1 t2 s0 s1 s2 (.slice x n c)) w) (fun _ _ => True) (.inl ⟨rfl, rfl, rfl, ⟨rfl, rfl, rfl, rfl⟩⟩) s14_mono ?_ ?_
  · intro i hi L vs a w1 hcl hL F hV hI
    have hcases : i = 0 ∨ i = 1 ∨ i = 2 ∨ i = 3 ∨ i = 4 ∨ i = 5 ∨ i = 6 ∨ i = 7 ∨ i = 8 ∨ i = 9 ∨ i = 10 ∨ i = 11 ∨ i = 12 ∨ i = 13 := by have hi' : i < 14 := hi; omega
    rcases hcases with rfl | rfl | rfl | rfl | rfl | rfl | rfl | rfl | rfl | rfl | rfl | rfl | rfl | rfl
    · have d0 : a.tmps.getD 0 undef = .pointer (some ⟨p, 0, none⟩) := F.out 0 (by kernel_rfl)
      exact Sp.sp_value rfl (Sp.wanted_none rfl) (v := .pointer (some ⟨p, 0, none⟩)) (w' := w1) (by simp [execOp, Act.eval, d0, Sp.gd d0, go_sem]) trivial trivial ⟨rfl, hI.pure 0 _ (by decide) (by decide) (by decide)⟩
    · have d0 : a.tmps.getD 0 undef = .pointer (some ⟨p, 0, none⟩) := F.out 0 (by kernel_rfl)
      exact Sp.sp_value rfl (Sp.wanted_none rfl) (v := .pointer (some ⟨p, 0, none⟩)) (w' := w1) (by simp [execOp, Act.eval, d0, Sp.gd d0, go_sem]) trivial trivial ⟨rfl, hI.pure 1 _ (by decide) (by decide) (by decide)⟩
    · have d124 : a.tmps.getD 124 undef = .pointer (some ⟨p, 0, none⟩) := F.val 1 124 (by kernel_rfl) (by rfl)
      exact Sp.sp_value rfl (Sp.wanted_none rfl) (v := .pointer (some ⟨p, 0, none⟩)) (w' := w1) (by simp [execOp, Act.eval, d124, Sp.gd d124, go_sem]) trivial trivial ⟨rfl, hI.pure 2 _ (by decide) (by decide) (by decide)⟩
    · have d125 : a.tmps.getD 125 undef = .pointer (some ⟨p, 0, none⟩) := F.val 2 125 (by kernel_rfl) (by rfl)
      exact Sp.sp_value rfl (Sp.wanted_none rfl) (v := .pointer (some ⟨p, 32, none⟩)) (w' := w1) (by simp [execOp, Act.eval, d125, Sp.gd d125, go_sem]) trivial trivial ⟨rfl, hI.pure 3 _ (by decide) (by decide) (by decide)⟩
    · have d126 : a.tmps.getD 126 undef = .pointer (some ⟨p, 32, none⟩) := F.val 3 126 (by kernel_rfl) (by rfl)
      have hc : w1.cell? ⟨p, 32, none⟩ = some (.slice none 0 0) := (hI.cell (by cases e : L 10 with | false => rfl | true => (have := hcl 10 (by decide) e 4 (by kernel_rfl); rw [hL] at this; cases this)) ⟨p, 32, none⟩ HP.out).trans HC32.out
      exact Sp.sp_value rfl (Sp.wanted_none rfl) (v := .slice none 0 0) (w' := w1) (by simp [execOp, Act.eval, d126, Sp.gd d126, hc, go_sem]) trivial trivial ⟨rfl, hI.pure 4 _ (by decide) (by decide) (by decide)⟩
    · have d3 : a.tmps.getD 3 undef = .pointer (some ⟨tm, 0, none⟩) := F.out 3 (by kernel_rfl)
      have hc0 : w1.cell? ⟨tm, 0, none⟩ = some (.int .i64 t0) := (hI.cell (by cases e : L 10 with | false => rfl | true => (have := hcl 10 (by decide) e 5 (by kernel_rfl); rw [hL] at this; cases this)) ⟨tm, 0, none⟩ HTM.out.lt).trans (HTM.out.cell 0).1
      have hc1 : w1.cell? ⟨tm, 1, none⟩ = some (.int .i64 t1) := (hI.cell (by cases e : L 10 with | false => rfl | true => (have := hcl 10 (by decide) e 5 (by kernel_rfl); rw [hL] at this; cases this)) ⟨tm, 1, none⟩ HTM.out.lt).trans (HTM.out.cell 1).1
      have hc2 : w1.cell? ⟨tm, 2, none⟩ = some (.int .i64 t2) := (hI.cell (by cases e : L 10 with | false => rfl | true => (have := hcl 10 (by decide) e 5 (by kernel_rfl); rw [hL] at this; cases this)) ⟨tm, 2, none⟩ HTM.out.lt).trans (HTM.out.cell 2).1
      exact Sp.sp_value rfl (Sp.wanted_none rfl) (v := .agg #[.int .i64 t0, .int .i64 t1, .int .i64 t2]) (w' := w1) (by simp [execOp, Act.eval, d3, Sp.gd d3, hc0, hc1, hc2, go_sem]) trivial trivial ⟨rfl, hI.pure 5 _ (by decide) (by decide) (by decide)⟩
    · have d5 : a.tmps.getD 5 undef = .pointer (some ⟨sm, 0, none⟩) := F.out 5 (by kernel_rfl)
      have hc0 : w1.cell? ⟨sm, 0, none⟩ = some (.int .i64 s0) := (hI.cell (by cases e : L 10 with | false => rfl | true => (have := hcl 10 (by decide) e 6 (by kernel_rfl); rw [hL] at this; cases this)) ⟨sm, 0, none⟩ HSM.out.lt).trans (HSM.out.cell 0).1
      have hc1 : w1.cell? ⟨sm, 1, none⟩ = some (.int .i64 s1) := (hI.cell (by cases e : L 10 with | false => rfl | true => (have := hcl 10 (by decide) e 6 (by kernel_rfl); rw [hL] at this; cases this)) ⟨sm, 1, none⟩ HSM.out.lt).trans (HSM.out.cell 1).1
      have hc2 : w1.cell? ⟨sm, 2, none⟩ = some (.int .i64 s2) := (hI.cell (by cases e : L 10 with | false => rfl | true => (have := hcl 10 (by decide) e 6 (by kernel_rfl); rw [hL] at this; cases this)) ⟨sm, 2, none⟩ HSM.out.lt).trans (HSM.out.cell 2).1
      exact Sp.sp_value rfl (Sp.wanted_none rfl) (v := .agg #[.int .i64 s0, .int .i64 s1, .int .i64 s2]) (w' := w1) (by simp [execOp, Act.eval, d5, Sp.gd d5, hc0, hc1, hc2, go_sem]) trivial trivial ⟨rfl, hI.pure 6 _ (by decide) (by decide) (by decide)⟩
    · have d6 : a.tmps.getD 6 undef = .slice x n c := F.out 6 (by kernel_rfl)
      exact Sp.sp_value rfl (Sp.wanted_none rfl) (v := .slice x n c) (w' := w1) (by simp [execOp, Act.eval, d6, Sp.gd d6, go_sem]) trivial trivial ⟨rfl, hI.pure 7 _ (by decide) (by decide) (by decide)⟩
    · have d128 : a.tmps.getD 128 undef = .agg #[.int .i64 t0, .int .i64 t1, .int .i64 t2] := F.val 5 128 (by kernel_rfl) (by rfl)
      have d129 : a.tmps.getD 129 undef = .agg #[.int .i64 s0, .int .i64 s1, .int .i64 s2] := F.val 6 129 (by kernel_rfl) (by rfl)
      have d130 : a.tmps.getD 130 undef = .slice x n c := F.val 7 130 (by kernel_rfl) (by rfl)
      exact Sp.sp_value rfl (Sp.wanted_none rfl) (v := .agg (fif t0 t1 t2 s0 s1 s2 (.slice x n c)).toArray) (w' := w1) (by simp [execOp, Act.eval, d128, Sp.gd d128, d129, Sp.gd d129, d130, Sp.gd d130, fif, go_sem]) trivial trivial ⟨rfl, hI.pure 8 _ (by decide) (by decide) (by decide)⟩
    · have d131 : a.tmps.getD 131 undef = .agg (fif t0 t1 t2 s0 s1 s2 (.slice x n c)).toArray := F.val 8 131 (by kernel_rfl) (by rfl)
      exact Sp.sp_value rfl (Sp.wanted_none rfl) (v := .slice (some ⟨w1.heap.size, 0, none⟩) 1 1) (w' := w1.alloc (cobj (fif t0 t1 t2 s0 s1 s2 (.slice x n c)))) (by simp [execOp, Act.eval, d131, Sp.gd d131, fif, cobj, go_sem]) trivial trivial ⟨⟨_, rfl⟩, hI.built hL⟩
    · have d127 : a.tmps.getD 127 undef = .slice none 0 0 := F.val 4 127 (by kernel_rfl) (by rfl)
      obtain ⟨l9, ⟨bb, e9⟩, d9⟩ := hV 9 (by kernel_rfl)
      have d132 := d9 132 rfl
      obtain ⟨hv9, g, cp, w5, hr, hI2⟩ := hI.append l9 hL 108
      rw [hv9] at d132
      exact Sp.sp_value rfl (Sp.wanted_none rfl) (v := .slice (some ⟨g, 0, none⟩) 1 cp) (w' := w5) (by simp [execOp, Act.eval, d127, Sp.gd d127, d132, Sp.gd d132, resolve, invoke, builtin, hr]) trivial trivial ⟨⟨g, cp, rfl⟩, hI2⟩
    · have d123 : a.tmps.getD 123 undef = .pointer (some ⟨p, 0, none⟩) := F.val 0 123 (by kernel_rfl) (by rfl)
      exact Sp.sp_value rfl (Sp.wanted_none rfl) (v := .pointer (some ⟨p, 0, none⟩)) (w' := w1) (by simp [execOp, Act.eval, d123, Sp.gd d123, go_sem]) trivial trivial ⟨rfl, hI.pure 11 _ (by decide) (by decide) (by decide)⟩
    · have d134 : a.tmps.getD 134 undef = .pointer (some ⟨p, 0, none⟩) := F.val 11 134 (by kernel_rfl) (by rfl)
      exact Sp.sp_value rfl (Sp.wanted_none rfl) (v := .pointer (some ⟨p, 32, none⟩)) (w' := w1) (by simp [execOp, Act.eval, d134, Sp.gd d134, go_sem]) trivial trivial ⟨rfl, hI.pure 12 _ (by decide) (by decide) (by decide)⟩
    · have d135 : a.tmps.getD 135 undef = .pointer (some ⟨p, 32, none⟩) := F.val 12 135 (by kernel_rfl) (by rfl)
      obtain ⟨l10, ⟨gg, cc, e10⟩, d10⟩ := hV 10 (by kernel_rfl)
      have d133 := d10 133 rfl
      obtain ⟨g, cp, hv10, hc, hf, hI2⟩ := hI.store l10 hL undef HP.out HC32.out HF32.out
      rw [hv10] at d133
      exact Sp.sp_store rfl (Sp.wanted_none rfl) (w' := w1.setCell ⟨p, 32, none⟩ (.slice (some ⟨g, 0, none⟩) 1 cp)) (by simp [execOp, Act.eval, d135, Sp.gd d135, d133, Sp.gd d133, hc, hf, go_sem]) trivial trivial ⟨trivial, hI2⟩
  · intro val L w6 hall hI hS
    have l13 := hall 13 (by decide)
    have l10 := hall 10 (by decide)
    rcases hI with ⟨_, h, _⟩ | ⟨_, h, _⟩ | ⟨_, _, g, cp, w5, hv, hb, ⟨h, _⟩ | ⟨_, rfl⟩⟩
    · rw [l10] at h; cases h
    · rw [l10] at h; cases h
    · rw [l13] at h; cases h
    · exact HKK.out _ w5 _ (by rw [Sp.setAll_size]; rfl) rfl hb
end Go.Proofs.YtocbbekciphjgaaDoor.Cm
/- QhD -/
/- A comment behind a header (yaml_parser_scan_line_comment): its frames, what stands in memory. Printed by genQh.py. -/
namespace Go.Proofs.YtocbbekciphjgaaDoor.Cm
open Go.RowKit Go.Proofs.YtocbbekciphjgaaDoor.Rdp Go.Proofs.YtocbbekciphjgaaDoor.Pa Go.Proofs.YtocbbekciphjgaaDoor.Sc Go.Proofs.YtocbbekciphjgaaDoor.Qd Go.Proofs.YtocbbekciphjgaaDoor.Bs
set_option linter.unusedVariables false
set_option linter.unusedSimpArgs false
/-- Where the scanner stands, its place in characters known. -/
structure AtI (k : Kn) (p : Nat) (L0 : List Value) (c u col mi : Nat) (rest : List Int) (w : World) : Prop where
  fro : Fro k.T c rest
  ch : ∀ x ∈ rest, Ch x
  len : k.T.length ≤ 1000000
  ex : ∃ bp bl ml z L, Rdr k p c u bp bl L w ∧ L[24]? = some (.int .i64 (mi : Nat)) ∧ L[25]? = some (.int .i64 (ml : Nat)) ∧ L[26]? = some (.int .i64 (col : Nat)) ∧ L[19]? = some (.int .i64 z) ∧ mi ≤ c ∧ ml ≤ c ∧ col ≤ c ∧ ∀ j, rdOff j → j ≠ 19 → j ≠ 24 → j ≠ 25 → j ≠ 26 → L[j]? = L0[j]?
theorem AtI.at {k : Kn} {p : Nat} {L0 : List Value} {c u col mi : Nat} {rest : List Int} {w : World} (h : AtI k p L0 c u col mi rest w) : At k p L0 c u col rest w := by
  obtain ⟨bp, bl, ml, z, L, h1⟩ := h.ex
  exact ⟨h.fro, h.ch, h.len, bp, bl, mi, ml, z, L, h1⟩
theorem At.i {k : Kn} {p : Nat} {L0 : List Value} {c u col : Nat} {rest : List Int} {w : World} (h : At k p L0 c u col rest w) : ∃ mi, AtI k p L0 c u col mi rest w := by
  obtain ⟨bp, bl, mi, ml, z, L, h1⟩ := h.ex
  exact ⟨mi, h.fro, h.ch, h.len, bp, bl, ml, z, L, h1⟩
theorem AtI.drewN {k : Kn} {p : Nat} {L0 : List Value} {c u col mi : Nat} {rest : List Int} {w : World} (h : AtI k p L0 c u col mi rest w) (n : Nat) : AtI k p L0 c u col mi rest (w.drewN n) := by
  obtain ⟨bp, bl, ml, z, L, h1, h2⟩ := h.ex
  exact ⟨h.fro, h.ch, h.len, bp, bl, ml, z, L, h1.drewN n, h2⟩
theorem AtI.far {k : Kn} {p : Nat} {L0 : List Value} {c u col mi : Nat} {rest : List Int} {w w' : World} {ps : List Nat} (h : AtI k p L0 c u col mi rest w) (hk : Kp ps w w') (hp : ∀ b ∈ ps, Far k p b) : AtI k p L0 c u col mi rest w' := by
  obtain ⟨bp, bl, ml, z, L, h1, h2⟩ := h.ex
  exact ⟨h.fro, h.ch, h.len, bp, bl, ml, z, L, rdr_far h1 hk hp, h2⟩
theorem AtI.ub {k : Kn} {p : Nat} {L0 : List Value} {c u col mi : Nat} {rest : List Int} {w : World} (h : AtI k p L0 c u col mi rest w) (hr : RoundOk k p) (n : Nat) (hn : 1 ≤ n) (hn8 : n ≤ 8) (hg : 2 < w.heap.size) :
    Calls Tryd.prog 101 #[.pointer (some ⟨p, 0, none⟩), .int .i64 n] w fun e w' => e = .returned (.bool true) ∧ (∃ u', 1 ≤ u' ∧ AtI k p L0 c u' col mi rest w') ∧ Kp (k.bs p) w w' := by
  obtain ⟨bp, bl, ml, z, L, h1, h24, h25, h26, h19, m1, m2, m3, ho⟩ := h.ex
  refine (ub_any k p c u bp bl n L w hr h1 hn hn8 hg).mono ?_
  rintro e w' ⟨rfl, u', bp', bl', L', g1, g2, g3, g4, g5, g6, g7, g8⟩
  refine ⟨rfl, ⟨u', g2, h.fro, h.ch, h.len, bp', bl', ml, z, L', g1, ?_, ?_, ?_, ?_, m1, m2, m3, fun j j1 j2 j3 j4 j5 => (g5 j j1).trans (ho j j1 j2 j3 j4 j5)⟩, g6⟩
  · exact (g5 24 (by unfold rdOff; omega)).trans h24
  · exact (g5 25 (by unfold rdOff; omega)).trans h25
  · exact (g5 26 (by unfold rdOff; omega)).trans h26
  · exact (g5 19 (by unfold rdOff; omega)).trans h19
theorem AtI.read {k : Kn} {p : Nat} {L0 : List Value} {c u col mi lo : Nat} {x : Int} {rest l : List Int} {v : Value} {w : World} (h : AtI k p L0 c (u + 1) col mi (x :: rest) w) (hrow : Row lo w v l) (hl : l.length ≤ 10000000) (hlo : lo ≤ w.heap.size) (hfar : ∀ g, lo ≤ g → Far k p g) :
    Calls Tryd.prog 109 #[.pointer (some ⟨p, 0, none⟩), v] w fun e w' => ∃ v', e = .returned v' ∧ AtI k p L0 (c + (u8 x).length) u (col + 1) (mi + 1) rest w' ∧ Gave k p lo v v' (l ++ u8 x) w w' := by
  obtain ⟨bp, bl, ml, z, L, h1, h24, h25, h26, h19, m1, m2, m3, ho⟩ := h.ex
  have hlen := h.len
  have hc := h.fro.2
  have hu := rdr_u h1
  have hx := h.ch x (by simp)
  have hpos := u8_pos x
  refine (read_any k p c u bp bl mi col lo z v l L w h1 h24 h26 h19 (by omega) (by omega) (by omega) hrow hl hlo hfar (u8 x) (h.fro.cw hx).symm (fun i hi => (h.fro.byte i hi).symm)).mono ?_
  rintro e w' ⟨v', rfl, g0, ⟨L', g1, g2, g3, ⟨z', g4⟩, g5⟩, g6, ps, g7, g8⟩
  rw [h.fro.nx hx] at g1
  refine ⟨v', rfl, ⟨h.fro.on, fun y hy => h.ch y (by simp [hy]), h.len, _, _, ml, z', L', g1, g2, ?_, g3, g4, by omega, by omega, by omega, fun j j1 j2 j3 j4 j5 => ?_⟩, g0, g6, ps, g7, fun b hb => (g8 b hb).imp (fun e => by rw [e]; exact k.mp p) id⟩
  · exact (g5 25 (by omega) (by omega) (by omega) (by omega) (by omega)).trans h25
  · unfold rdOff at j1
    exact (g5 j (by omega) (by omega) (by omega) (by omega) (by omega)).trans (ho j (by unfold rdOff; omega) j2 j3 j4 j5)
/-- A frame: the parser, the two marks, the text so far, where it began. -/
structure Fc (p tm sm : Nat) (tv v8 : Value) (a : Act) : Prop where
  size : a.tmps.size = 136
  defers : a.defers = []
  s0 : gt a 0 = .pointer (some ⟨p, 0, none⟩)
  s3 : gt a 3 = .pointer (some ⟨tm, 0, none⟩)
  s5 : gt a 5 = .pointer (some ⟨sm, 0, none⟩)
  s6 : gt a 6 = tv
  s7 : gt a 7 = .int .i64 0
  s8 : gt a 8 = v8
/-- What does not turn. -/
structure Cc (k : Kn) (p tm sm lo : Nat) (w1 : World) : Prop where
  round : RoundOk k p
  far : ∀ g, w1.heap.size ≤ g → Far k p g
  t1 : w1.heap.size ≤ tm
  t2 : tm < lo
  m1 : w1.heap.size ≤ sm
  m2 : sm < lo
  ne : tm ≠ sm
  two : 2 < w1.heap.size
/-- What stands in memory. -/
structure Wc (k : Kn) (p tm sm lo : Nat) (L0 : List Value) (w1 : World) (c u col mi : Nat) (rest txt : List Int) (tv : Value) (w : World) : Prop where
  here : AtI k p L0 c u col mi rest w
  kp : Kp (k.bs p) w1 w
  tmb : ∃ t0 t1 t2 : Int, Bk w tm 74 [.int .i64 t0, .int .i64 t1, .int .i64 t2]
  smb : ∃ s0 s1 s2 : Int, Bk w sm 74 [.int .i64 s0, .int .i64 s1, .int .i64 s2]
  row : Row lo w tv txt
  low : lo ≤ w.heap.size
  sz : txt.length ≤ 4 * c
theorem Wc.drewN {k : Kn} {p tm sm lo : Nat} {L0 : List Value} {w1 : World} {c u col mi : Nat} {rest txt : List Int} {tv : Value} {w : World} (h : Wc k p tm sm lo L0 w1 c u col mi rest txt tv w) (n : Nat) : Wc k p tm sm lo L0 w1 c u col mi rest txt tv (w.drewN n) :=
  ⟨h.here.drewN n, h.kp.drewN n, h.tmb, h.smb, h.row, h.low, h.sz⟩
theorem Wc.turn {k : Kn} {p tm sm lo : Nat} {L0 : List Value} {w1 : World} (hC : Cc k p tm sm lo w1) {c u col mi u' : Nat} {rest txt : List Int} {tv : Value} {w w' : World} (h : Wc k p tm sm lo L0 w1 c u col mi rest txt tv w) (hk : Kp (k.bs p) w w') (ha : AtI k p L0 c u' col mi rest w') : Wc k p tm sm lo L0 w1 c u' col mi rest txt tv w' := by
  obtain ⟨t0, t1, t2, ht⟩ := h.tmb
  obtain ⟨s0, s1, s2, hs⟩ := h.smb
  exact ⟨ha, h.kp.trans hk, ⟨t0, t1, t2, ht.kp hk (hC.far _ hC.t1).1⟩, ⟨s0, s1, s2, hs.kp hk (hC.far _ hC.m1).1⟩, h.row.kp hk (fun b hb hh => (hC.far b (by have := (h.row.own b hb).1; have := hC.t1; have := hC.t2; omega)).1 hh), Nat.le_trans h.low hk.size, h.sz⟩
theorem Wc.readto {k : Kn} {p tm sm lo : Nat} {L0 : List Value} {w1 : World} (hC : Cc k p tm sm lo w1) {c u col mi u' : Nat} {x : Int} {rest txt : List Int} {tv v' : Value} {w w' : World} (h : Wc k p tm sm lo L0 w1 c u col mi (x :: rest) txt tv w) (ha : AtI k p L0 (c + (u8 x).length) u' (col + 1) (mi + 1) rest w') (hg : Gave k p lo tv v' (txt ++ u8 x) w w') : Wc k p tm sm lo L0 w1 (c + (u8 x).length) u' (col + 1) (mi + 1) rest (txt ++ u8 x) v' w' := by
  obtain ⟨t0, t1, t2, ht⟩ := h.tmb
  obtain ⟨s0, s1, s2, hs⟩ := h.smb
  obtain ⟨g1, g2, ps, g3, g4⟩ := hg
  have hlo1 : w1.heap.size ≤ lo := by have := hC.t1; have := hC.t2; omega
  have no : ∀ b, b < lo → b ∉ k.bs p → b ∉ ps := fun b hb hn hh => by
    rcases g4 b hh with g | g
    · exact hn g
    · have := (h.row.own b g).1
      omega
  refine ⟨ha, Sc.Kp.trans_new h.kp g3 (fun b hb => (g4 b hb).imp id (fun e => by have := (h.row.own b e).1; omega)), ⟨t0, t1, t2, ht.kp g3 (no tm hC.t2 (hC.far _ hC.t1).1)⟩, ⟨s0, s1, s2, hs.kp g3 (no sm hC.m2 (hC.far _ hC.m1).1)⟩, g1, Nat.le_trans h.low g3.size, ?_⟩
  have := h.sz
  have := u8_pos x
  simp only [List.length_append]
  omega
/-- The beginning's mark has been noted. -/
theorem Wc.noted {k : Kn} {p tm sm lo : Nat} {L0 : List Value} {w1 : World} (hC : Cc k p tm sm lo w1) {c u col mi : Nat} {rest txt : List Int} {tv : Value} {w : World} (h : Wc k p tm sm lo L0 w1 c u col mi rest txt tv w) (x0 x1 x2 : Int) :
    Wc k p tm sm lo L0 w1 c u col mi rest txt tv (((w.setCell ⟨sm, 0, none⟩ (.int .i64 x0)).setCell ⟨sm, 1, none⟩ (.int .i64 x1)).setCell ⟨sm, 2, none⟩ (.int .i64 x2)) := by
  obtain ⟨t0, t1, t2, ht⟩ := h.tmb
  obtain ⟨s0, s1, s2, hs⟩ := h.smb
  have hk : Kp [sm] w (((w.setCell ⟨sm, 0, none⟩ (.int .i64 x0)).setCell ⟨sm, 1, none⟩ (.int .i64 x1)).setCell ⟨sm, 2, none⟩ (.int .i64 x2)) := (((Kp.refl _ _).setCell sm 0 _ (by simp)).setCell sm 1 _ (by simp)).setCell sm 2 _ (by simp)
  refine ⟨h.here.far hk (by intro b hb; rw [List.mem_singleton] at hb; rw [hb]; exact hC.far _ hC.m1), Sc.Kp.trans_new h.kp hk (fun b hb => by rw [List.mem_singleton] at hb; rw [hb]; exact .inr hC.m1), ⟨t0, t1, t2, ht.kp hk (by simp; exact hC.ne)⟩, ⟨x0, x1, x2, ((hs.set 0 _).set 1 _).set 2 _⟩, ?_, by simp; exact h.low, h.sz⟩
  exact h.row.kp hk (fun b hb hh => by
    rw [List.mem_singleton] at hh
    have := (h.row.own b hb).1
    have := hC.m2
    omega)
end Go.Proofs.YtocbbekciphjgaaDoor.Cm
