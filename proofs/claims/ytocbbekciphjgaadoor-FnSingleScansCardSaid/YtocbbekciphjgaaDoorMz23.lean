/- QdS: parts of the proof, one behind another. -/
import Derived.Test.YtocbbekciphjgaaDoorMz22
/- QdS -/
/- What stands behind a backslash (yaml_parser_scan_flow_scalar): the walks. Printed by genQdJ.py. -/
namespace Go.Proofs.YtocbbekciphjgaaDoor.Qd
open Go.RowKit Go.Proofs.YtocbbekciphjgaaDoor.Rdp Go.Proofs.YtocbbekciphjgaaDoor.Pa Go.Proofs.YtocbbekciphjgaaDoor.Sc
set_option linter.unusedVariables false
set_option linter.unusedSimpArgs false
noncomputable def c27 : Code := part [0] cEsc
noncomputable def cSw : Code := part [1, 0] cEsc
noncomputable def c78 : Code := part [1, 1, 0] cEsc
noncomputable def c79 : Code := part [1, 1, 1, 0] cEsc
noncomputable def c80 : Code := part [1, 1, 1, 1, 0] cEsc
noncomputable def cNum : Code := part [1, 1, 1, 1, 1, 0] cEsc
noncomputable def c81 : Code := part [0] cNum
noncomputable def c82 : Code := part [1, 0] cNum
noncomputable def c84 : Code := part [1, 1, 0, 0] cNum
noncomputable def cN5 : Code := part [1, 1, 0, 1, 0, 0] cNum
noncomputable def c91 : Code := part [1, 1, 1, 0] cNum
noncomputable def c94 : Code := part [1, 1, 1, 1, 0] cNum
noncomputable def c107 : Code := part [1, 1, 1, 1, 1, 0] cNum
noncomputable def cN7 : Code := part [1, 1, 1, 1, 1, 1, 0, 0] cNum
noncomputable def c85 : Code := part [0] cN5
noncomputable def c87 : Code := part [1, 0, 0, 0] cN5
noncomputable def c87e : Code := part [1, 0, 0, 1] cN5
noncomputable def c90 : Code := part [1, 0, 1] cN5
noncomputable def c86 : Code := part [1, 1] cN5
noncomputable def c108 : Code := part [0] cN7
noncomputable def c110 : Code := part [1, 0, 0] cN7
noncomputable def c109 : Code := part [1, 1] cN7
theorem cEsc_eq : cEsc = .seq c27 (.seq cSw (.seq c78 (.seq c79 (.seq c80 (.cond (.tmp 410) cNum .skip))))) := by kernel_rfl
set_option maxHeartbeats 32000000 in
set_option maxRecDepth 100000 in
theorem s27 {k : Kn} {p t mk lo : Nat} {s0 s1 s2 : Int} {L0 : List Value} {w1 : World} (hC : Cx k p mk lo s0 s1 s2 L0 w1) {sg : Bool} {sv lbv tbv wsv : Value} {lbr : Bool} {a : Act} {w : World} {K : Act → World → Prop} {Q : Exit → Act → World → Prop} (hF : Fm sg p t mk sv lbv tbv wsv lbr a)
    (hK : ∀ a', Fm sg p t mk sv lbv tbv wsv lbr a' → gt a' 13 = .int .i64 0 → K a' w) :
    c27.wp Tryd.prog (Exit.then K Q) a w := by
  have HKK := Lib.hid hK
  rw [lit717 a hF.size hF.defers, hF.s0, hF.s1, hF.s2, hF.s7, hF.s8, hF.s9, hF.s10, hF.s11, hF.s12]
  clear hC hF hK
  conv => arg 2; whnf
  go_wp2_with fail
  exact HKK.out _ ⟨rfl, rfl, rfl, rfl, rfl, rfl, rfl, rfl, rfl, rfl, rfl⟩ rfl
set_option maxHeartbeats 32000000 in
set_option maxRecDepth 100000 in
theorem sw_48 {k : Kn} {p t mk lo : Nat} {s0 s1 s2 : Int} {L0 : List Value} {w1 : World} (hC : Cx k p mk lo s0 s1 s2 L0 w1) {sg : Bool} {c u col : Nat} {r s lb tb ws : List Int} {sv lbv tbv wsv : Value} {lbr : Bool} {a : Act} {w : World} {K : Act → World → Prop} {Q : Exit → Act → World → Prop} (hF : Fm sg p t mk sv lbv tbv wsv lbr a) (hS : St k p lo L0 w1 c u col (92 :: 48 :: r) s lb tb ws sv lbv tbv wsv w) (hu : 2 ≤ u) (h13 : gt a 13 = .int .i64 0) (hb : s.length + lb.length + tb.length + ws.length + 4 ≤ 4 * c)
    (hK : ∀ a' w' v', Fm sg p t mk v' lbv tbv wsv lbr a' → St k p lo L0 w1 c u col (92 :: 48 :: r) (s ++ [0]) lb tb ws v' lbv tbv wsv w' → gt a' 13 = .int .i64 0 → K a' w') :
    cSw.wp Tryd.prog (Exit.then K Q) a w := by
  obtain ⟨bp, bl, mi, ml, z, L, h1, h24, h25, h26, h19, m1, m2, m3, ho⟩ := hS.here.ex
  have hsm := h1.small
  obtain ⟨c16, f16⟩ := at_ h1.pb 16 h1.at16
  obtain ⟨c17, f17⟩ := at_ h1.pb 17 h1.at17
  obtain ⟨c18, f18⟩ := at_ h1.pb 18 h1.at18
  obtain ⟨c26, f26⟩ := at_ h1.pb 26 h26
  have j2 : (bl : Int) ≤ 541 := by omega
  have j0 : (0 : Int) ≤ (bp : Int) := by omega
  obtain ⟨y0, z0, hok0, hlay0⟩ := peek h1 [] (92 :: 48 :: r) (by simpa using hS.here.fro) (by simpa using hS.here.ch) (by simp) (by simp; omega)
  obtain ⟨x0, HX0⟩ : ∃ x0, Hid (fb (92 :: 48 :: r) = x0) := ⟨_, rfl⟩
  rw [HX0.out] at hok0 hlay0
  have hx0 := hlay0.hx
  have hj0 : (bp : Int) + 0 < (bl : Int) := by have := hlay0.hi; simp at this; omega
  simp only [List.length_nil, List.length_cons, Nat.zero_add, Nat.add_zero] at hlay0 hx0
  have hj0' : (bp : Int) < (bl : Int) := by omega
  obtain rfl : x0 = 92 := HX0.out.symm.trans (fb_small (by omega))
  obtain ⟨y1, z1, hok1, hlay1⟩ := peek h1 [92] (48 :: r) (by simpa using hS.here.fro) (by simpa using hS.here.ch) (by simp) (by simp; omega)
  obtain ⟨x1, HX1⟩ : ∃ x1, Hid (fb (48 :: r) = x1) := ⟨_, rfl⟩
  rw [HX1.out] at hok1 hlay1
  have hx1 := hlay1.hx
  have hj1 : (bp : Int) + 1 < (bl : Int) := by have := hlay1.hi; simp at this; omega
  simp only [List.length_nil, List.length_cons, Nat.zero_add, Nat.add_zero] at hlay1 hx1
  obtain rfl : x1 = 48 := HX1.out.symm.trans (fb_small (by omega))
  have HB := Lib.hid hb
  have HFAR := Lib.hid hC.far
  have HLOW := Lib.hid hC.low
  have HKK := Lib.hid hK
  obtain ⟨wq, hwq⟩ : ∃ wq : Nat → World, ∀ n, wq n = w.drewN n := ⟨fun n => w.drewN n, fun _ => rfl⟩
  rw [lit717 a hF.size hF.defers, hF.s0, hF.s1, hF.s2, hF.s7, hF.s8, hF.s9, hF.s10, hF.s11, hF.s12, h13]
  have HS0 := Lib.hid hS
  clear h1 h24 h25 h26 h19 ho hC hF hS hK hok0 hlay0 hok1 hlay1 hb h13
  conv => arg 2; whnf
  try simp only [List.append]
  go_wp2_with fail
  go_quiet (fail)
  obtain ⟨wd, hwd⟩ : ∃ wd : World, wd = w.drewN nq := ⟨_, rfl⟩
  have HS : Hid (St k p lo L0 w1 c u col (92 :: 48 :: r) s lb tb ws sv lbv tbv wsv wd) := by rw [hwd]; exact HS0.out.drewN nq
  rw [← hwd]
  clear hwd HS0 hwq c16 f16 c17 f17 c18 f18 c26 f26 hx0 hx1
  go_wp2_with ((at_builtin; refine wpList_add rfl (.tmp 297) (.tmp 298) rfl lo _ s [0] rfl (World.ownsRow.alloc HS.out.r8 _) ⟨wd.heap.size, 0, none⟩ 1 1 rfl rfl (fun j hj => by rw [Addr.add_lit]; obtain rfl : j = 0 := Nat.lt_one_iff.1 hj; simp [World.cell?_alloc_new]) (by have := HS.out.sz; have := HS.out.here.fro.2; have := HS.out.here.len; simp only [List.length_cons, List.length_nil]; omega) (Nat.le_trans (Nat.le_trans (Nat.le_of_eq HLOW.out.symm) HS.out.kp.size) (by simp)) ?_))
  intro v0 w0' hrow' hgrow hgr
  have HS0 := Lib.hid (HS.out.add8 HFAR.out HLOW.out (below_alloc _ _) hrow' hgrow hgr (by have := HB.out; simp only [List.length_append, List.length_cons, List.length_nil]; omega))
  clear hrow' hgrow hgr HS
  go_wp2_with fail
  exact HKK.out _ _ _ ⟨rfl, rfl, rfl, rfl, rfl, rfl, rfl, rfl, rfl, rfl, rfl⟩ HS0.out rfl
set_option maxHeartbeats 32000000 in
set_option maxRecDepth 100000 in
theorem sw_76 {k : Kn} {p t mk lo : Nat} {s0 s1 s2 : Int} {L0 : List Value} {w1 : World} (hC : Cx k p mk lo s0 s1 s2 L0 w1) {sg : Bool} {c u col : Nat} {r s lb tb ws : List Int} {sv lbv tbv wsv : Value} {lbr : Bool} {a : Act} {w : World} {K : Act → World → Prop} {Q : Exit → Act → World → Prop} (hF : Fm sg p t mk sv lbv tbv wsv lbr a) (hS : St k p lo L0 w1 c u col (92 :: 76 :: r) s lb tb ws sv lbv tbv wsv w) (hu : 2 ≤ u) (h13 : gt a 13 = .int .i64 0) (hb : s.length + lb.length + tb.length + ws.length + 4 ≤ 4 * c)
    (hK : ∀ a' w' v', Fm sg p t mk v' lbv tbv wsv lbr a' → St k p lo L0 w1 c u col (92 :: 76 :: r) (s ++ [226, 128, 168]) lb tb ws v' lbv tbv wsv w' → gt a' 13 = .int .i64 0 → K a' w') :
    cSw.wp Tryd.prog (Exit.then K Q) a w := by
  obtain ⟨bp, bl, mi, ml, z, L, h1, h24, h25, h26, h19, m1, m2, m3, ho⟩ := hS.here.ex
  have hsm := h1.small
  obtain ⟨c16, f16⟩ := at_ h1.pb 16 h1.at16
  obtain ⟨c17, f17⟩ := at_ h1.pb 17 h1.at17
  obtain ⟨c18, f18⟩ := at_ h1.pb 18 h1.at18
  obtain ⟨c26, f26⟩ := at_ h1.pb 26 h26
  have j2 : (bl : Int) ≤ 541 := by omega
  have j0 : (0 : Int) ≤ (bp : Int) := by omega
  obtain ⟨y0, z0, hok0, hlay0⟩ := peek h1 [] (92 :: 76 :: r) (by simpa using hS.here.fro) (by simpa using hS.here.ch) (by simp) (by simp; omega)
  obtain ⟨x0, HX0⟩ : ∃ x0, Hid (fb (92 :: 76 :: r) = x0) := ⟨_, rfl⟩
  rw [HX0.out] at hok0 hlay0
  have hx0 := hlay0.hx
  have hj0 : (bp : Int) + 0 < (bl : Int) := by have := hlay0.hi; simp at this; omega
  simp only [List.length_nil, List.length_cons, Nat.zero_add, Nat.add_zero] at hlay0 hx0
  have hj0' : (bp : Int) < (bl : Int) := by omega
  obtain rfl : x0 = 92 := HX0.out.symm.trans (fb_small (by omega))
  obtain ⟨y1, z1, hok1, hlay1⟩ := peek h1 [92] (76 :: r) (by simpa using hS.here.fro) (by simpa using hS.here.ch) (by simp) (by simp; omega)
  obtain ⟨x1, HX1⟩ : ∃ x1, Hid (fb (76 :: r) = x1) := ⟨_, rfl⟩
  rw [HX1.out] at hok1 hlay1
  have hx1 := hlay1.hx
  have hj1 : (bp : Int) + 1 < (bl : Int) := by have := hlay1.hi; simp at this; omega
  simp only [List.length_nil, List.length_cons, Nat.zero_add, Nat.add_zero] at hlay1 hx1
  obtain rfl : x1 = 76 := HX1.out.symm.trans (fb_small (by omega))
  have HB := Lib.hid hb
  have HFAR := Lib.hid hC.far
  have HLOW := Lib.hid hC.low
  have HKK := Lib.hid hK
  obtain ⟨wq, hwq⟩ : ∃ wq : Nat → World, ∀ n, wq n = w.drewN n := ⟨fun n => w.drewN n, fun _ => rfl⟩
  rw [lit717 a hF.size hF.defers, hF.s0, hF.s1, hF.s2, hF.s7, hF.s8, hF.s9, hF.s10, hF.s11, hF.s12, h13]
  have HS0 := Lib.hid hS
  clear h1 h24 h25 h26 h19 ho hC hF hS hK hok0 hlay0 hok1 hlay1 hb h13
  conv => arg 2; whnf
  try simp only [List.append]
  go_wp2_with fail
  go_quiet (fail)
  obtain ⟨wd, hwd⟩ : ∃ wd : World, wd = w.drewN nq := ⟨_, rfl⟩
  have HS : Hid (St k p lo L0 w1 c u col (92 :: 76 :: r) s lb tb ws sv lbv tbv wsv wd) := by rw [hwd]; exact HS0.out.drewN nq
  rw [← hwd]
  clear hwd HS0 hwq c16 f16 c17 f17 c18 f18 c26 f26 hx0 hx1
  go_wp2_with ((at_builtin; refine wpList_add rfl (.tmp 379) (.tmp 380) rfl lo _ s [226] rfl (World.ownsRow.alloc HS.out.r8 _) ⟨wd.heap.size, 0, none⟩ 1 1 rfl rfl (fun j hj => by rw [Addr.add_lit]; obtain rfl : j = 0 := Nat.lt_one_iff.1 hj; simp [World.cell?_alloc_new]) (by have := HS.out.sz; have := HS.out.here.fro.2; have := HS.out.here.len; simp only [List.length_cons, List.length_nil]; omega) (Nat.le_trans (Nat.le_trans (Nat.le_of_eq HLOW.out.symm) HS.out.kp.size) (by simp)) ?_))
  intro v0 w0' hrow' hgrow hgr
  have HS0 := Lib.hid (HS.out.add8 HFAR.out HLOW.out (below_alloc _ _) hrow' hgrow hgr (by have := HB.out; simp only [List.length_append, List.length_cons, List.length_nil]; omega))
  clear hrow' hgrow hgr HS
  go_wp2_with ((at_builtin; refine wpList_add rfl (.tmp 382) (.tmp 383) rfl lo _ (s ++ [226]) [128] rfl (World.ownsRow.alloc HS0.out.r8 _) ⟨w0'.heap.size, 0, none⟩ 1 1 rfl rfl (fun j hj => by rw [Addr.add_lit]; obtain rfl : j = 0 := Nat.lt_one_iff.1 hj; simp [World.cell?_alloc_new]) (by have := HS0.out.sz; have := HS0.out.here.fro.2; have := HS0.out.here.len; simp only [List.length_cons, List.length_nil]; omega) (Nat.le_trans (Nat.le_trans (Nat.le_of_eq HLOW.out.symm) HS0.out.kp.size) (by simp)) ?_))
  intro v1 w1' hrow' hgrow hgr
  have HS1 := Lib.hid (HS0.out.add8 HFAR.out HLOW.out (below_alloc _ _) hrow' hgrow hgr (by have := HB.out; simp only [List.length_append, List.length_cons, List.length_nil]; omega))
  clear hrow' hgrow hgr HS0
  go_wp2_with ((at_builtin; refine wpList_add rfl (.tmp 385) (.tmp 386) rfl lo _ (s ++ [226, 128]) [168] rfl (World.ownsRow.alloc HS1.out.r8 _) ⟨w1'.heap.size, 0, none⟩ 1 1 rfl rfl (fun j hj => by rw [Addr.add_lit]; obtain rfl : j = 0 := Nat.lt_one_iff.1 hj; simp [World.cell?_alloc_new]) (by have := HS1.out.sz; have := HS1.out.here.fro.2; have := HS1.out.here.len; simp only [List.length_cons, List.length_nil]; omega) (Nat.le_trans (Nat.le_trans (Nat.le_of_eq HLOW.out.symm) HS1.out.kp.size) (by simp)) ?_))
  intro v2 w2' hrow' hgrow hgr
  have HS2 := Lib.hid (HS1.out.add8 HFAR.out HLOW.out (below_alloc _ _) hrow' hgrow hgr (by have := HB.out; simp only [List.length_append, List.length_cons, List.length_nil]; omega))
  clear hrow' hgrow hgr HS1
  go_wp2_with fail
  exact HKK.out _ _ _ ⟨rfl, rfl, rfl, rfl, rfl, rfl, rfl, rfl, rfl, rfl, rfl⟩ HS2.out rfl
set_option maxHeartbeats 32000000 in
set_option maxRecDepth 100000 in
theorem sw_120 {k : Kn} {p t mk lo : Nat} {s0 s1 s2 : Int} {L0 : List Value} {w1 : World} (hC : Cx k p mk lo s0 s1 s2 L0 w1) {sg : Bool} {c u col : Nat} {r s lb tb ws : List Int} {sv lbv tbv wsv : Value} {lbr : Bool} {a : Act} {w : World} {K : Act → World → Prop} {Q : Exit → Act → World → Prop} (hF : Fm sg p t mk sv lbv tbv wsv lbr a) (hS : St k p lo L0 w1 c u col (92 :: 120 :: r) s lb tb ws sv lbv tbv wsv w) (hu : 2 ≤ u) (h13 : gt a 13 = .int .i64 0) 
    (hK : ∀ a' w', Fm sg p t mk sv lbv tbv wsv lbr a' → St k p lo L0 w1 c u col (92 :: 120 :: r) s lb tb ws sv lbv tbv wsv w' → gt a' 13 = .int .i64 2 → K a' w') :
    cSw.wp Tryd.prog (Exit.then K Q) a w := by
  obtain ⟨bp, bl, mi, ml, z, L, h1, h24, h25, h26, h19, m1, m2, m3, ho⟩ := hS.here.ex
  have hsm := h1.small
  obtain ⟨c16, f16⟩ := at_ h1.pb 16 h1.at16
  obtain ⟨c17, f17⟩ := at_ h1.pb 17 h1.at17
  obtain ⟨c18, f18⟩ := at_ h1.pb 18 h1.at18
  obtain ⟨c26, f26⟩ := at_ h1.pb 26 h26
  have j2 : (bl : Int) ≤ 541 := by omega
  have j0 : (0 : Int) ≤ (bp : Int) := by omega
  obtain ⟨y0, z0, hok0, hlay0⟩ := peek h1 [] (92 :: 120 :: r) (by simpa using hS.here.fro) (by simpa using hS.here.ch) (by simp) (by simp; omega)
  obtain ⟨x0, HX0⟩ : ∃ x0, Hid (fb (92 :: 120 :: r) = x0) := ⟨_, rfl⟩
  rw [HX0.out] at hok0 hlay0
  have hx0 := hlay0.hx
  have hj0 : (bp : Int) + 0 < (bl : Int) := by have := hlay0.hi; simp at this; omega
  simp only [List.length_nil, List.length_cons, Nat.zero_add, Nat.add_zero] at hlay0 hx0
  have hj0' : (bp : Int) < (bl : Int) := by omega
  obtain rfl : x0 = 92 := HX0.out.symm.trans (fb_small (by omega))
  obtain ⟨y1, z1, hok1, hlay1⟩ := peek h1 [92] (120 :: r) (by simpa using hS.here.fro) (by simpa using hS.here.ch) (by simp) (by simp; omega)
  obtain ⟨x1, HX1⟩ : ∃ x1, Hid (fb (120 :: r) = x1) := ⟨_, rfl⟩
  rw [HX1.out] at hok1 hlay1
  have hx1 := hlay1.hx
  have hj1 : (bp : Int) + 1 < (bl : Int) := by have := hlay1.hi; simp at this; omega
  simp only [List.length_nil, List.length_cons, Nat.zero_add, Nat.add_zero] at hlay1 hx1
  obtain rfl : x1 = 120 := HX1.out.symm.trans (fb_small (by omega))
  have HKK := Lib.hid hK
  have HS := Lib.hid hS
  rw [lit717 a hF.size hF.defers, hF.s0, hF.s1, hF.s2, hF.s7, hF.s8, hF.s9, hF.s10, hF.s11, hF.s12, h13]
  clear h1 h24 h25 h26 h19 ho hC hF hS hK hok0 hlay0 hok1 hlay1 h13
  conv => arg 2; whnf
  try simp only [List.append]
  go_wp2_with fail
  go_quiet (fail)
  go_wp2_with fail
  exact HKK.out _ _ ⟨rfl, rfl, rfl, rfl, rfl, rfl, rfl, rfl, rfl, rfl, rfl⟩ (HS.out.drewN _) rfl
set_option maxHeartbeats 32000000 in
set_option maxRecDepth 100000 in
theorem sw_no {k : Kn} {p t mk lo : Nat} {s0 s1 s2 : Int} {L0 : List Value} {w1 : World} (hC : Cx k p mk lo s0 s1 s2 L0 w1) {sg : Bool} {c u col : Nat} {y : Int} {r s lb tb ws : List Int} {sv lbv tbv wsv : Value} {lbr : Bool} {a : Act} {w : World} {K : Act → World → Prop} {Q : Exit → Act → World → Prop} (hF : Fm sg p t mk sv lbv tbv wsv lbr a) (hS : St k p lo L0 w1 c u col (92 :: y :: r) s lb tb ws sv lbv tbv wsv w) (hu : 2 ≤ u) (h13 : gt a 13 = .int .i64 0) (hno : fb (y :: r) ≠ 48 ∧ fb (y :: r) ≠ 97 ∧ fb (y :: r) ≠ 98 ∧ fb (y :: r) ≠ 116 ∧ fb (y :: r) ≠ 9 ∧ fb (y :: r) ≠ 110 ∧ fb (y :: r) ≠ 118 ∧ fb (y :: r) ≠ 102 ∧ fb (y :: r) ≠ 114 ∧ fb (y :: r) ≠ 101 ∧ fb (y :: r) ≠ 32 ∧ fb (y :: r) ≠ 34 ∧ fb (y :: r) ≠ 39 ∧ fb (y :: r) ≠ 92 ∧ fb (y :: r) ≠ 78 ∧ fb (y :: r) ≠ 95 ∧ fb (y :: r) ≠ 76 ∧ fb (y :: r) ≠ 80 ∧ fb (y :: r) ≠ 120 ∧ fb (y :: r) ≠ 117 ∧ fb (y :: r) ≠ 85)
    (hX : ∀ a' w', a'.defers = [] → gt a' 6 = .bool false → Er k p w1 w' → Q .ret a' w') :
    cSw.wp Tryd.prog (Exit.then K Q) a w := by
  obtain ⟨bp, bl, mi, ml, z, L, h1, h24, h25, h26, h19, m1, m2, m3, ho⟩ := hS.here.ex
  have hsm := h1.small
  obtain ⟨c16, f16⟩ := at_ h1.pb 16 h1.at16
  obtain ⟨c17, f17⟩ := at_ h1.pb 17 h1.at17
  obtain ⟨c18, f18⟩ := at_ h1.pb 18 h1.at18
  obtain ⟨c26, f26⟩ := at_ h1.pb 26 h26
  have j2 : (bl : Int) ≤ 541 := by omega
  have j0 : (0 : Int) ≤ (bp : Int) := by omega
  obtain ⟨y0, z0, hok0, hlay0⟩ := peek h1 [] (92 :: y :: r) (by simpa using hS.here.fro) (by simpa using hS.here.ch) (by simp) (by simp; omega)
  obtain ⟨x0, HX0⟩ : ∃ x0, Hid (fb (92 :: y :: r) = x0) := ⟨_, rfl⟩
  rw [HX0.out] at hok0 hlay0
  have hx0 := hlay0.hx
  have hj0 : (bp : Int) + 0 < (bl : Int) := by have := hlay0.hi; simp at this; omega
  simp only [List.length_nil, List.length_cons, Nat.zero_add, Nat.add_zero] at hlay0 hx0
  have hj0' : (bp : Int) < (bl : Int) := by omega
  obtain rfl : x0 = 92 := HX0.out.symm.trans (fb_small (by omega))
  obtain ⟨y1, z1, hok1, hlay1⟩ := peek h1 [92] (y :: r) (by simpa using hS.here.fro) (by simpa using hS.here.ch) (by simp) (by simp; omega)
  obtain ⟨x1, HX1⟩ : ∃ x1, Hid (fb (y :: r) = x1) := ⟨_, rfl⟩
  rw [HX1.out] at hok1 hlay1
  have hx1 := hlay1.hx
  have hj1 : (bp : Int) + 1 < (bl : Int) := by have := hlay1.hi; simp at this; omega
  simp only [List.length_nil, List.length_cons, Nat.zero_add, Nat.add_zero] at hlay1 hx1
  rw [HX1.out] at hno
  obtain ⟨g48, g97, g98, g116, g9, g110, g118, g102, g114, g101, g32, g34, g39, g92, g78, g95, g76, g80, g120, g117, g85⟩ := hno
  have q48 : (x1 == 48) = false := nb g48
  have q97 : (x1 == 97) = false := nb g97
  have q98 : (x1 == 98) = false := nb g98
  have q116 : (x1 == 116) = false := nb g116
  have q9 : (x1 == 9) = false := nb g9
  have q110 : (x1 == 110) = false := nb g110
  have q118 : (x1 == 118) = false := nb g118
  have q102 : (x1 == 102) = false := nb g102
  have q114 : (x1 == 114) = false := nb g114
  have q101 : (x1 == 101) = false := nb g101
  have q32 : (x1 == 32) = false := nb g32
  have q34 : (x1 == 34) = false := nb g34
  have q39 : (x1 == 39) = false := nb g39
  have q92 : (x1 == 92) = false := nb g92
  have q78 : (x1 == 78) = false := nb g78
  have q95 : (x1 == 95) = false := nb g95
  have q76 : (x1 == 76) = false := nb g76
  have q80 : (x1 == 80) = false := nb g80
  have q120 : (x1 == 120) = false := nb g120
  have q117 : (x1 == 117) = false := nb g117
  have q85 : (x1 == 85) = false := nb g85
  clear g48 g97 g98 g116 g9 g110 g118 g102 g114 g101 g32 g34 g39 g92 g78 g95 g76 g80 g120 g117 g85
  have hmk := hC.mark.kp hS.kp hC.own
  obtain ⟨k0, _⟩ := at_ hmk 0 (v := .int .i64 s0) rfl
  obtain ⟨k1, _⟩ := at_ hmk 1 (v := .int .i64 s1) rfl
  obtain ⟨k2, _⟩ := at_ hmk 2 (v := .int .i64 s2) rfl
  have HC := Lib.hid hC
  have HS := Lib.hid hS
  have HXX := Lib.hid hX
  rw [lit717 a hF.size hF.defers, hF.s0, hF.s1, hF.s2, hF.s7, hF.s8, hF.s9, hF.s10, hF.s11, hF.s12, h13]
  clear h1 h24 h25 h26 h19 ho hC hF hS hX hok0 hlay0 hok1 hlay1 h13 hmk
  conv => arg 2; whnf
  try simp only [List.append]
  go_wp2_with fail
  go_quiet (fail)
  go_wp2_with fail
  refine (At.fault (HS.out.here.drewN _) HC.out.cells (HS.out.kp.drewN _) _ _ s0 s1 s2).mono ?_
  rintro e w' ⟨rfl, her⟩
  have HER := Lib.hid her
  clear her
  go_wp2_with fail
  exact HXX.out _ _ rfl rfl HER.out
set_option maxHeartbeats 32000000 in
set_option maxRecDepth 100000 in
theorem s78 {k : Kn} {p t mk lo : Nat} {s0 s1 s2 : Int} {L0 : List Value} {w1 : World} (hC : Cx k p mk lo s0 s1 s2 L0 w1) {sg : Bool} {c u col : Nat} {r s lb tb ws : List Int} {sv lbv tbv wsv : Value} {lbr : Bool} {a : Act} {w : World} {K : Act → World → Prop} {Q : Exit → Act → World → Prop} (hF : Fm sg p t mk sv lbv tbv wsv lbr a) {x : Int} (hS : St k p lo L0 w1 c (u + 1) col (x :: r) s lb tb ws sv lbv tbv wsv w)
    (hK : ∀ a' w', Fm sg p t mk sv lbv tbv wsv lbr a' → St k p lo L0 w1 (c + (u8 x).length) u (col + 1) r s lb tb ws sv lbv tbv wsv w' → K a' w') :
    c78.wp Tryd.prog (Exit.then K Q) a w := by
  have hsk := Lib.hid hS.here.skip
  have HS := Lib.hid hS
  have HKK := Lib.hid hK
  have HFAR := Lib.hid hC.far
  rw [lit717 a hF.size hF.defers, hF.s0, hF.s1, hF.s2, hF.s7, hF.s8, hF.s9, hF.s10, hF.s11, hF.s12]
  clear hC hF hS hK
  conv => arg 2; whnf
  go_wp2_with fail
  refine hsk.out.mono ?_
  rintro e w' ⟨rfl, hat, hkp, hsz⟩
  have HST := Lib.hid (HS.out.turn HFAR.out hkp hat (by omega))
  clear hat hkp hsz hsk HS
  go_wp2_with fail
  exact HKK.out _ _ ⟨rfl, rfl, rfl, rfl, rfl, rfl, rfl, rfl, rfl, rfl, rfl⟩ HST.out
set_option maxHeartbeats 32000000 in
set_option maxRecDepth 100000 in
theorem s79 {k : Kn} {p t mk lo : Nat} {s0 s1 s2 : Int} {L0 : List Value} {w1 : World} (hC : Cx k p mk lo s0 s1 s2 L0 w1) {sg : Bool} {c u col : Nat} {r s lb tb ws : List Int} {sv lbv tbv wsv : Value} {lbr : Bool} {a : Act} {w : World} {K : Act → World → Prop} {Q : Exit → Act → World → Prop} (hF : Fm sg p t mk sv lbv tbv wsv lbr a) {x : Int} (hS : St k p lo L0 w1 c (u + 1) col (x :: r) s lb tb ws sv lbv tbv wsv w)
    (hK : ∀ a' w', Fm sg p t mk sv lbv tbv wsv lbr a' → St k p lo L0 w1 (c + (u8 x).length) u (col + 1) r s lb tb ws sv lbv tbv wsv w' → K a' w') :
    c79.wp Tryd.prog (Exit.then K Q) a w := by
  have hsk := Lib.hid hS.here.skip
  have HS := Lib.hid hS
  have HKK := Lib.hid hK
  have HFAR := Lib.hid hC.far
  rw [lit717 a hF.size hF.defers, hF.s0, hF.s1, hF.s2, hF.s7, hF.s8, hF.s9, hF.s10, hF.s11, hF.s12]
  clear hC hF hS hK
  conv => arg 2; whnf
  go_wp2_with fail
  refine hsk.out.mono ?_
  rintro e w' ⟨rfl, hat, hkp, hsz⟩
  have HST := Lib.hid (HS.out.turn HFAR.out hkp hat (by omega))
  clear hat hkp hsz hsk HS
  go_wp2_with fail
  exact HKK.out _ _ ⟨rfl, rfl, rfl, rfl, rfl, rfl, rfl, rfl, rfl, rfl, rfl⟩ HST.out
end Go.Proofs.YtocbbekciphjgaaDoor.Qd
