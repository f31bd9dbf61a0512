/- QdSb: parts of the proof, one behind another. -/
import Derived.Test.YtocbbekciphjgaaDoorMz23
/- QdSb -/
/- What letters stand for behind a backslash, the others (yaml_parser_scan_flow_scalar): the walks. Printed by genQdJ.py. -/
namespace Go.Proofs.YtocbbekciphjgaaDoor.Qd
open Go.RowKit Go.Proofs.YtocbbekciphjgaaDoor.Rdp Go.Proofs.YtocbbekciphjgaaDoor.Pa Go.Proofs.YtocbbekciphjgaaDoor.Sc
set_option linter.unusedVariables false
set_option linter.unusedSimpArgs false
set_option maxHeartbeats 32000000 in
set_option maxRecDepth 100000 in
theorem sw_101 {k : Kn} {p t mk lo : Nat} {s0 s1 s2 : Int} {L0 : List Value} {w1 : World} (hC : Cx k p mk lo s0 s1 s2 L0 w1) {sg : Bool} {c u col : Nat} {r s lb tb ws : List Int} {sv lbv tbv wsv : Value} {lbr : Bool} {a : Act} {w : World} {K : Act → World → Prop} {Q : Exit → Act → World → Prop} (hF : Fm sg p t mk sv lbv tbv wsv lbr a) (hS : St k p lo L0 w1 c u col (92 :: 101 :: r) s lb tb ws sv lbv tbv wsv w) (hu : 2 ≤ u) (h13 : gt a 13 = .int .i64 0) (hb : s.length + lb.length + tb.length + ws.length + 4 ≤ 4 * c)
    (hK : ∀ a' w' v', Fm sg p t mk v' lbv tbv wsv lbr a' → St k p lo L0 w1 c u col (92 :: 101 :: r) (s ++ [27]) lb tb ws v' lbv tbv wsv w' → gt a' 13 = .int .i64 0 → K a' w') :
    cSw.wp Tryd.prog (Exit.then K Q) a w := by
  obtain ⟨bp, bl, mi, ml, z, L, h1, h24, h25, h26, h19, m1, m2, m3, ho⟩ := hS.here.ex
  have hsm := h1.small
  obtain ⟨c16, f16⟩ := at_ h1.pb 16 h1.at16
  obtain ⟨c17, f17⟩ := at_ h1.pb 17 h1.at17
  obtain ⟨c18, f18⟩ := at_ h1.pb 18 h1.at18
  obtain ⟨c26, f26⟩ := at_ h1.pb 26 h26
  have j2 : (bl : Int) ≤ 541 := by omega
  have j0 : (0 : Int) ≤ (bp : Int) := by omega
  obtain ⟨y0, z0, hok0, hlay0⟩ := peek h1 [] (92 :: 101 :: r) (by simpa using hS.here.fro) (by simpa using hS.here.ch) (by simp) (by simp; omega)
  obtain ⟨x0, HX0⟩ : ∃ x0, Hid (fb (92 :: 101 :: r) = x0) := ⟨_, rfl⟩
  rw [HX0.out] at hok0 hlay0
  have hx0 := hlay0.hx
  have hj0 : (bp : Int) + 0 < (bl : Int) := by have := hlay0.hi; simp at this; omega
  simp only [List.length_nil, List.length_cons, Nat.zero_add, Nat.add_zero] at hlay0 hx0
  have hj0' : (bp : Int) < (bl : Int) := by omega
  obtain rfl : x0 = 92 := HX0.out.symm.trans (fb_small (by omega))
  obtain ⟨y1, z1, hok1, hlay1⟩ := peek h1 [92] (101 :: r) (by simpa using hS.here.fro) (by simpa using hS.here.ch) (by simp) (by simp; omega)
  obtain ⟨x1, HX1⟩ : ∃ x1, Hid (fb (101 :: r) = x1) := ⟨_, rfl⟩
  rw [HX1.out] at hok1 hlay1
  have hx1 := hlay1.hx
  have hj1 : (bp : Int) + 1 < (bl : Int) := by have := hlay1.hi; simp at this; omega
  simp only [List.length_nil, List.length_cons, Nat.zero_add, Nat.add_zero] at hlay1 hx1
  obtain rfl : x1 = 101 := HX1.out.symm.trans (fb_small (by omega))
  have HB := Lib.hid hb
  have HFAR := Lib.hid hC.far
  have HLOW := Lib.hid hC.low
  have HKK := Lib.hid hK
  obtain ⟨wq, hwq⟩ : ∃ wq : Nat → World, ∀ n, wq n = w.drewN n := ⟨fun n => w.drewN n, fun _ => rfl⟩
  rw [lit717 a hF.size hF.defers, hF.s0, hF.s1, hF.s2, hF.s7, hF.s8, hF.s9, hF.s10, hF.s11, hF.s12, h13]
  have HS0 := Lib.hid hS
  clear h1 h24 h25 h26 h19 ho hC hF hS hK hok0 hlay0 hok1 hlay1 hb h13
  conv => arg 2; whnf
  try simp only [List.append]
  go_wp2_with fail
  go_quiet (fail)
  obtain ⟨wd, hwd⟩ : ∃ wd : World, wd = w.drewN nq := ⟨_, rfl⟩
  have HS : Hid (St k p lo L0 w1 c u col (92 :: 101 :: r) s lb tb ws sv lbv tbv wsv wd) := by rw [hwd]; exact HS0.out.drewN nq
  rw [← hwd]
  clear hwd HS0 hwq c16 f16 c17 f17 c18 f18 c26 f26 hx0 hx1
  go_wp2_with ((at_builtin; refine wpList_add rfl (.tmp 338) (.tmp 339) rfl lo _ s [27] rfl (World.ownsRow.alloc HS.out.r8 _) ⟨wd.heap.size, 0, none⟩ 1 1 rfl rfl (fun j hj => by rw [Addr.add_lit]; obtain rfl : j = 0 := Nat.lt_one_iff.1 hj; simp [World.cell?_alloc_new]) (by have := HS.out.sz; have := HS.out.here.fro.2; have := HS.out.here.len; simp only [List.length_cons, List.length_nil]; omega) (Nat.le_trans (Nat.le_trans (Nat.le_of_eq HLOW.out.symm) HS.out.kp.size) (by simp)) ?_))
  intro v0 w0' hrow' hgrow hgr
  have HS0 := Lib.hid (HS.out.add8 HFAR.out HLOW.out (below_alloc _ _) hrow' hgrow hgr (by have := HB.out; simp only [List.length_append, List.length_cons, List.length_nil]; omega))
  clear hrow' hgrow hgr HS
  go_wp2_with fail
  exact HKK.out _ _ _ ⟨rfl, rfl, rfl, rfl, rfl, rfl, rfl, rfl, rfl, rfl, rfl⟩ HS0.out rfl
set_option maxHeartbeats 32000000 in
set_option maxRecDepth 100000 in
theorem sw_32 {k : Kn} {p t mk lo : Nat} {s0 s1 s2 : Int} {L0 : List Value} {w1 : World} (hC : Cx k p mk lo s0 s1 s2 L0 w1) {sg : Bool} {c u col : Nat} {r s lb tb ws : List Int} {sv lbv tbv wsv : Value} {lbr : Bool} {a : Act} {w : World} {K : Act → World → Prop} {Q : Exit → Act → World → Prop} (hF : Fm sg p t mk sv lbv tbv wsv lbr a) (hS : St k p lo L0 w1 c u col (92 :: 32 :: r) s lb tb ws sv lbv tbv wsv w) (hu : 2 ≤ u) (h13 : gt a 13 = .int .i64 0) (hb : s.length + lb.length + tb.length + ws.length + 4 ≤ 4 * c)
    (hK : ∀ a' w' v', Fm sg p t mk v' lbv tbv wsv lbr a' → St k p lo L0 w1 c u col (92 :: 32 :: r) (s ++ [32]) lb tb ws v' lbv tbv wsv w' → gt a' 13 = .int .i64 0 → K a' w') :
    cSw.wp Tryd.prog (Exit.then K Q) a w := by
  obtain ⟨bp, bl, mi, ml, z, L, h1, h24, h25, h26, h19, m1, m2, m3, ho⟩ := hS.here.ex
  have hsm := h1.small
  obtain ⟨c16, f16⟩ := at_ h1.pb 16 h1.at16
  obtain ⟨c17, f17⟩ := at_ h1.pb 17 h1.at17
  obtain ⟨c18, f18⟩ := at_ h1.pb 18 h1.at18
  obtain ⟨c26, f26⟩ := at_ h1.pb 26 h26
  have j2 : (bl : Int) ≤ 541 := by omega
  have j0 : (0 : Int) ≤ (bp : Int) := by omega
  obtain ⟨y0, z0, hok0, hlay0⟩ := peek h1 [] (92 :: 32 :: r) (by simpa using hS.here.fro) (by simpa using hS.here.ch) (by simp) (by simp; omega)
  obtain ⟨x0, HX0⟩ : ∃ x0, Hid (fb (92 :: 32 :: r) = x0) := ⟨_, rfl⟩
  rw [HX0.out] at hok0 hlay0
  have hx0 := hlay0.hx
  have hj0 : (bp : Int) + 0 < (bl : Int) := by have := hlay0.hi; simp at this; omega
  simp only [List.length_nil, List.length_cons, Nat.zero_add, Nat.add_zero] at hlay0 hx0
  have hj0' : (bp : Int) < (bl : Int) := by omega
  obtain rfl : x0 = 92 := HX0.out.symm.trans (fb_small (by omega))
  obtain ⟨y1, z1, hok1, hlay1⟩ := peek h1 [92] (32 :: r) (by simpa using hS.here.fro) (by simpa using hS.here.ch) (by simp) (by simp; omega)
  obtain ⟨x1, HX1⟩ : ∃ x1, Hid (fb (32 :: r) = x1) := ⟨_, rfl⟩
  rw [HX1.out] at hok1 hlay1
  have hx1 := hlay1.hx
  have hj1 : (bp : Int) + 1 < (bl : Int) := by have := hlay1.hi; simp at this; omega
  simp only [List.length_nil, List.length_cons, Nat.zero_add, Nat.add_zero] at hlay1 hx1
  obtain rfl : x1 = 32 := HX1.out.symm.trans (fb_small (by omega))
  have HB := Lib.hid hb
  have HFAR := Lib.hid hC.far
  have HLOW := Lib.hid hC.low
  have HKK := Lib.hid hK
  obtain ⟨wq, hwq⟩ : ∃ wq : Nat → World, ∀ n, wq n = w.drewN n := ⟨fun n => w.drewN n, fun _ => rfl⟩
  rw [lit717 a hF.size hF.defers, hF.s0, hF.s1, hF.s2, hF.s7, hF.s8, hF.s9, hF.s10, hF.s11, hF.s12, h13]
  have HS0 := Lib.hid hS
  clear h1 h24 h25 h26 h19 ho hC hF hS hK hok0 hlay0 hok1 hlay1 hb h13
  conv => arg 2; whnf
  try simp only [List.append]
  go_wp2_with fail
  go_quiet (fail)
  obtain ⟨wd, hwd⟩ : ∃ wd : World, wd = w.drewN nq := ⟨_, rfl⟩
  have HS : Hid (St k p lo L0 w1 c u col (92 :: 32 :: r) s lb tb ws sv lbv tbv wsv wd) := by rw [hwd]; exact HS0.out.drewN nq
  rw [← hwd]
  clear hwd HS0 hwq c16 f16 c17 f17 c18 f18 c26 f26 hx0 hx1
  go_wp2_with ((at_builtin; refine wpList_add rfl (.tmp 343) (.tmp 344) rfl lo _ s [32] rfl (World.ownsRow.alloc HS.out.r8 _) ⟨wd.heap.size, 0, none⟩ 1 1 rfl rfl (fun j hj => by rw [Addr.add_lit]; obtain rfl : j = 0 := Nat.lt_one_iff.1 hj; simp [World.cell?_alloc_new]) (by have := HS.out.sz; have := HS.out.here.fro.2; have := HS.out.here.len; simp only [List.length_cons, List.length_nil]; omega) (Nat.le_trans (Nat.le_trans (Nat.le_of_eq HLOW.out.symm) HS.out.kp.size) (by simp)) ?_))
  intro v0 w0' hrow' hgrow hgr
  have HS0 := Lib.hid (HS.out.add8 HFAR.out HLOW.out (below_alloc _ _) hrow' hgrow hgr (by have := HB.out; simp only [List.length_append, List.length_cons, List.length_nil]; omega))
  clear hrow' hgrow hgr HS
  go_wp2_with fail
  exact HKK.out _ _ _ ⟨rfl, rfl, rfl, rfl, rfl, rfl, rfl, rfl, rfl, rfl, rfl⟩ HS0.out rfl
set_option maxHeartbeats 32000000 in
set_option maxRecDepth 100000 in
theorem sw_34 {k : Kn} {p t mk lo : Nat} {s0 s1 s2 : Int} {L0 : List Value} {w1 : World} (hC : Cx k p mk lo s0 s1 s2 L0 w1) {sg : Bool} {c u col : Nat} {r s lb tb ws : List Int} {sv lbv tbv wsv : Value} {lbr : Bool} {a : Act} {w : World} {K : Act → World → Prop} {Q : Exit → Act → World → Prop} (hF : Fm sg p t mk sv lbv tbv wsv lbr a) (hS : St k p lo L0 w1 c u col (92 :: 34 :: r) s lb tb ws sv lbv tbv wsv w) (hu : 2 ≤ u) (h13 : gt a 13 = .int .i64 0) (hb : s.length + lb.length + tb.length + ws.length + 4 ≤ 4 * c)
    (hK : ∀ a' w' v', Fm sg p t mk v' lbv tbv wsv lbr a' → St k p lo L0 w1 c u col (92 :: 34 :: r) (s ++ [34]) lb tb ws v' lbv tbv wsv w' → gt a' 13 = .int .i64 0 → K a' w') :
    cSw.wp Tryd.prog (Exit.then K Q) a w := by
  obtain ⟨bp, bl, mi, ml, z, L, h1, h24, h25, h26, h19, m1, m2, m3, ho⟩ := hS.here.ex
  have hsm := h1.small
  obtain ⟨c16, f16⟩ := at_ h1.pb 16 h1.at16
  obtain ⟨c17, f17⟩ := at_ h1.pb 17 h1.at17
  obtain ⟨c18, f18⟩ := at_ h1.pb 18 h1.at18
  obtain ⟨c26, f26⟩ := at_ h1.pb 26 h26
  have j2 : (bl : Int) ≤ 541 := by omega
  have j0 : (0 : Int) ≤ (bp : Int) := by omega
  obtain ⟨y0, z0, hok0, hlay0⟩ := peek h1 [] (92 :: 34 :: r) (by simpa using hS.here.fro) (by simpa using hS.here.ch) (by simp) (by simp; omega)
  obtain ⟨x0, HX0⟩ : ∃ x0, Hid (fb (92 :: 34 :: r) = x0) := ⟨_, rfl⟩
  rw [HX0.out] at hok0 hlay0
  have hx0 := hlay0.hx
  have hj0 : (bp : Int) + 0 < (bl : Int) := by have := hlay0.hi; simp at this; omega
  simp only [List.length_nil, List.length_cons, Nat.zero_add, Nat.add_zero] at hlay0 hx0
  have hj0' : (bp : Int) < (bl : Int) := by omega
  obtain rfl : x0 = 92 := HX0.out.symm.trans (fb_small (by omega))
  obtain ⟨y1, z1, hok1, hlay1⟩ := peek h1 [92] (34 :: r) (by simpa using hS.here.fro) (by simpa using hS.here.ch) (by simp) (by simp; omega)
  obtain ⟨x1, HX1⟩ : ∃ x1, Hid (fb (34 :: r) = x1) := ⟨_, rfl⟩
  rw [HX1.out] at hok1 hlay1
  have hx1 := hlay1.hx
  have hj1 : (bp : Int) + 1 < (bl : Int) := by have := hlay1.hi; simp at this; omega
  simp only [List.length_nil, List.length_cons, Nat.zero_add, Nat.add_zero] at hlay1 hx1
  obtain rfl : x1 = 34 := HX1.out.symm.trans (fb_small (by omega))
  have HB := Lib.hid hb
  have HFAR := Lib.hid hC.far
  have HLOW := Lib.hid hC.low
  have HKK := Lib.hid hK
  obtain ⟨wq, hwq⟩ : ∃ wq : Nat → World, ∀ n, wq n = w.drewN n := ⟨fun n => w.drewN n, fun _ => rfl⟩
  rw [lit717 a hF.size hF.defers, hF.s0, hF.s1, hF.s2, hF.s7, hF.s8, hF.s9, hF.s10, hF.s11, hF.s12, h13]
  have HS0 := Lib.hid hS
  clear h1 h24 h25 h26 h19 ho hC hF hS hK hok0 hlay0 hok1 hlay1 hb h13
  conv => arg 2; whnf
  try simp only [List.append]
  go_wp2_with fail
  go_quiet (fail)
  obtain ⟨wd, hwd⟩ : ∃ wd : World, wd = w.drewN nq := ⟨_, rfl⟩
  have HS : Hid (St k p lo L0 w1 c u col (92 :: 34 :: r) s lb tb ws sv lbv tbv wsv wd) := by rw [hwd]; exact HS0.out.drewN nq
  rw [← hwd]
  clear hwd HS0 hwq c16 f16 c17 f17 c18 f18 c26 f26 hx0 hx1
  go_wp2_with ((at_builtin; refine wpList_add rfl (.tmp 348) (.tmp 349) rfl lo _ s [34] rfl (World.ownsRow.alloc HS.out.r8 _) ⟨wd.heap.size, 0, none⟩ 1 1 rfl rfl (fun j hj => by rw [Addr.add_lit]; obtain rfl : j = 0 := Nat.lt_one_iff.1 hj; simp [World.cell?_alloc_new]) (by have := HS.out.sz; have := HS.out.here.fro.2; have := HS.out.here.len; simp only [List.length_cons, List.length_nil]; omega) (Nat.le_trans (Nat.le_trans (Nat.le_of_eq HLOW.out.symm) HS.out.kp.size) (by simp)) ?_))
  intro v0 w0' hrow' hgrow hgr
  have HS0 := Lib.hid (HS.out.add8 HFAR.out HLOW.out (below_alloc _ _) hrow' hgrow hgr (by have := HB.out; simp only [List.length_append, List.length_cons, List.length_nil]; omega))
  clear hrow' hgrow hgr HS
  go_wp2_with fail
  exact HKK.out _ _ _ ⟨rfl, rfl, rfl, rfl, rfl, rfl, rfl, rfl, rfl, rfl, rfl⟩ HS0.out rfl
set_option maxHeartbeats 32000000 in
set_option maxRecDepth 100000 in
theorem sw_92 {k : Kn} {p t mk lo : Nat} {s0 s1 s2 : Int} {L0 : List Value} {w1 : World} (hC : Cx k p mk lo s0 s1 s2 L0 w1) {sg : Bool} {c u col : Nat} {r s lb tb ws : List Int} {sv lbv tbv wsv : Value} {lbr : Bool} {a : Act} {w : World} {K : Act → World → Prop} {Q : Exit → Act → World → Prop} (hF : Fm sg p t mk sv lbv tbv wsv lbr a) (hS : St k p lo L0 w1 c u col (92 :: 92 :: r) s lb tb ws sv lbv tbv wsv w) (hu : 2 ≤ u) (h13 : gt a 13 = .int .i64 0) (hb : s.length + lb.length + tb.length + ws.length + 4 ≤ 4 * c)
    (hK : ∀ a' w' v', Fm sg p t mk v' lbv tbv wsv lbr a' → St k p lo L0 w1 c u col (92 :: 92 :: r) (s ++ [92]) lb tb ws v' lbv tbv wsv w' → gt a' 13 = .int .i64 0 → K a' w') :
    cSw.wp Tryd.prog (Exit.then K Q) a w := by
  obtain ⟨bp, bl, mi, ml, z, L, h1, h24, h25, h26, h19, m1, m2, m3, ho⟩ := hS.here.ex
  have hsm := h1.small
  obtain ⟨c16, f16⟩ := at_ h1.pb 16 h1.at16
  obtain ⟨c17, f17⟩ := at_ h1.pb 17 h1.at17
  obtain ⟨c18, f18⟩ := at_ h1.pb 18 h1.at18
  obtain ⟨c26, f26⟩ := at_ h1.pb 26 h26
  have j2 : (bl : Int) ≤ 541 := by omega
  have j0 : (0 : Int) ≤ (bp : Int) := by omega
  obtain ⟨y0, z0, hok0, hlay0⟩ := peek h1 [] (92 :: 92 :: r) (by simpa using hS.here.fro) (by simpa using hS.here.ch) (by simp) (by simp; omega)
  obtain ⟨x0, HX0⟩ : ∃ x0, Hid (fb (92 :: 92 :: r) = x0) := ⟨_, rfl⟩
  rw [HX0.out] at hok0 hlay0
  have hx0 := hlay0.hx
  have hj0 : (bp : Int) + 0 < (bl : Int) := by have := hlay0.hi; simp at this; omega
  simp only [List.length_nil, List.length_cons, Nat.zero_add, Nat.add_zero] at hlay0 hx0
  have hj0' : (bp : Int) < (bl : Int) := by omega
  obtain rfl : x0 = 92 := HX0.out.symm.trans (fb_small (by omega))
  obtain ⟨y1, z1, hok1, hlay1⟩ := peek h1 [92] (92 :: r) (by simpa using hS.here.fro) (by simpa using hS.here.ch) (by simp) (by simp; omega)
  obtain ⟨x1, HX1⟩ : ∃ x1, Hid (fb (92 :: r) = x1) := ⟨_, rfl⟩
  rw [HX1.out] at hok1 hlay1
  have hx1 := hlay1.hx
  have hj1 : (bp : Int) + 1 < (bl : Int) := by have := hlay1.hi; simp at this; omega
  simp only [List.length_nil, List.length_cons, Nat.zero_add, Nat.add_zero] at hlay1 hx1
  obtain rfl : x1 = 92 := HX1.out.symm.trans (fb_small (by omega))
  have HB := Lib.hid hb
  have HFAR := Lib.hid hC.far
  have HLOW := Lib.hid hC.low
  have HKK := Lib.hid hK
  obtain ⟨wq, hwq⟩ : ∃ wq : Nat → World, ∀ n, wq n = w.drewN n := ⟨fun n => w.drewN n, fun _ => rfl⟩
  rw [lit717 a hF.size hF.defers, hF.s0, hF.s1, hF.s2, hF.s7, hF.s8, hF.s9, hF.s10, hF.s11, hF.s12, h13]
  have HS0 := Lib.hid hS
  clear h1 h24 h25 h26 h19 ho hC hF hS hK hok0 hlay0 hok1 hlay1 hb h13
  conv => arg 2; whnf
  try simp only [List.append]
  go_wp2_with fail
  go_quiet (fail)
  obtain ⟨wd, hwd⟩ : ∃ wd : World, wd = w.drewN nq := ⟨_, rfl⟩
  have HS : Hid (St k p lo L0 w1 c u col (92 :: 92 :: r) s lb tb ws sv lbv tbv wsv wd) := by rw [hwd]; exact HS0.out.drewN nq
  rw [← hwd]
  clear hwd HS0 hwq c16 f16 c17 f17 c18 f18 c26 f26 hx0 hx1
  go_wp2_with ((at_builtin; refine wpList_add rfl (.tmp 358) (.tmp 359) rfl lo _ s [92] rfl (World.ownsRow.alloc HS.out.r8 _) ⟨wd.heap.size, 0, none⟩ 1 1 rfl rfl (fun j hj => by rw [Addr.add_lit]; obtain rfl : j = 0 := Nat.lt_one_iff.1 hj; simp [World.cell?_alloc_new]) (by have := HS.out.sz; have := HS.out.here.fro.2; have := HS.out.here.len; simp only [List.length_cons, List.length_nil]; omega) (Nat.le_trans (Nat.le_trans (Nat.le_of_eq HLOW.out.symm) HS.out.kp.size) (by simp)) ?_))
  intro v0 w0' hrow' hgrow hgr
  have HS0 := Lib.hid (HS.out.add8 HFAR.out HLOW.out (below_alloc _ _) hrow' hgrow hgr (by have := HB.out; simp only [List.length_append, List.length_cons, List.length_nil]; omega))
  clear hrow' hgrow hgr HS
  go_wp2_with fail
  exact HKK.out _ _ _ ⟨rfl, rfl, rfl, rfl, rfl, rfl, rfl, rfl, rfl, rfl, rfl⟩ HS0.out rfl
set_option maxHeartbeats 32000000 in
set_option maxRecDepth 100000 in
theorem sw_78 {k : Kn} {p t mk lo : Nat} {s0 s1 s2 : Int} {L0 : List Value} {w1 : World} (hC : Cx k p mk lo s0 s1 s2 L0 w1) {sg : Bool} {c u col : Nat} {r s lb tb ws : List Int} {sv lbv tbv wsv : Value} {lbr : Bool} {a : Act} {w : World} {K : Act → World → Prop} {Q : Exit → Act → World → Prop} (hF : Fm sg p t mk sv lbv tbv wsv lbr a) (hS : St k p lo L0 w1 c u col (92 :: 78 :: r) s lb tb ws sv lbv tbv wsv w) (hu : 2 ≤ u) (h13 : gt a 13 = .int .i64 0) (hb : s.length + lb.length + tb.length + ws.length + 4 ≤ 4 * c)
    (hK : ∀ a' w' v', Fm sg p t mk v' lbv tbv wsv lbr a' → St k p lo L0 w1 c u col (92 :: 78 :: r) (s ++ [194, 133]) lb tb ws v' lbv tbv wsv w' → gt a' 13 = .int .i64 0 → K a' w') :
    cSw.wp Tryd.prog (Exit.then K Q) a w := by
  obtain ⟨bp, bl, mi, ml, z, L, h1, h24, h25, h26, h19, m1, m2, m3, ho⟩ := hS.here.ex
  have hsm := h1.small
  obtain ⟨c16, f16⟩ := at_ h1.pb 16 h1.at16
  obtain ⟨c17, f17⟩ := at_ h1.pb 17 h1.at17
  obtain ⟨c18, f18⟩ := at_ h1.pb 18 h1.at18
  obtain ⟨c26, f26⟩ := at_ h1.pb 26 h26
  have j2 : (bl : Int) ≤ 541 := by omega
  have j0 : (0 : Int) ≤ (bp : Int) := by omega
  obtain ⟨y0, z0, hok0, hlay0⟩ := peek h1 [] (92 :: 78 :: r) (by simpa using hS.here.fro) (by simpa using hS.here.ch) (by simp) (by simp; omega)
  obtain ⟨x0, HX0⟩ : ∃ x0, Hid (fb (92 :: 78 :: r) = x0) := ⟨_, rfl⟩
  rw [HX0.out] at hok0 hlay0
  have hx0 := hlay0.hx
  have hj0 : (bp : Int) + 0 < (bl : Int) := by have := hlay0.hi; simp at this; omega
  simp only [List.length_nil, List.length_cons, Nat.zero_add, Nat.add_zero] at hlay0 hx0
  have hj0' : (bp : Int) < (bl : Int) := by omega
  obtain rfl : x0 = 92 := HX0.out.symm.trans (fb_small (by omega))
  obtain ⟨y1, z1, hok1, hlay1⟩ := peek h1 [92] (78 :: r) (by simpa using hS.here.fro) (by simpa using hS.here.ch) (by simp) (by simp; omega)
  obtain ⟨x1, HX1⟩ : ∃ x1, Hid (fb (78 :: r) = x1) := ⟨_, rfl⟩
  rw [HX1.out] at hok1 hlay1
  have hx1 := hlay1.hx
  have hj1 : (bp : Int) + 1 < (bl : Int) := by have := hlay1.hi; simp at this; omega
  simp only [List.length_nil, List.length_cons, Nat.zero_add, Nat.add_zero] at hlay1 hx1
  obtain rfl : x1 = 78 := HX1.out.symm.trans (fb_small (by omega))
  have HB := Lib.hid hb
  have HFAR := Lib.hid hC.far
  have HLOW := Lib.hid hC.low
  have HKK := Lib.hid hK
  obtain ⟨wq, hwq⟩ : ∃ wq : Nat → World, ∀ n, wq n = w.drewN n := ⟨fun n => w.drewN n, fun _ => rfl⟩
  rw [lit717 a hF.size hF.defers, hF.s0, hF.s1, hF.s2, hF.s7, hF.s8, hF.s9, hF.s10, hF.s11, hF.s12, h13]
  have HS0 := Lib.hid hS
  clear h1 h24 h25 h26 h19 ho hC hF hS hK hok0 hlay0 hok1 hlay1 hb h13
  conv => arg 2; whnf
  try simp only [List.append]
  go_wp2_with fail
  go_quiet (fail)
  obtain ⟨wd, hwd⟩ : ∃ wd : World, wd = w.drewN nq := ⟨_, rfl⟩
  have HS : Hid (St k p lo L0 w1 c u col (92 :: 78 :: r) s lb tb ws sv lbv tbv wsv wd) := by rw [hwd]; exact HS0.out.drewN nq
  rw [← hwd]
  clear hwd HS0 hwq c16 f16 c17 f17 c18 f18 c26 f26 hx0 hx1
  go_wp2_with ((at_builtin; refine wpList_add rfl (.tmp 363) (.tmp 364) rfl lo _ s [194] rfl (World.ownsRow.alloc HS.out.r8 _) ⟨wd.heap.size, 0, none⟩ 1 1 rfl rfl (fun j hj => by rw [Addr.add_lit]; obtain rfl : j = 0 := Nat.lt_one_iff.1 hj; simp [World.cell?_alloc_new]) (by have := HS.out.sz; have := HS.out.here.fro.2; have := HS.out.here.len; simp only [List.length_cons, List.length_nil]; omega) (Nat.le_trans (Nat.le_trans (Nat.le_of_eq HLOW.out.symm) HS.out.kp.size) (by simp)) ?_))
  intro v0 w0' hrow' hgrow hgr
  have HS0 := Lib.hid (HS.out.add8 HFAR.out HLOW.out (below_alloc _ _) hrow' hgrow hgr (by have := HB.out; simp only [List.length_append, List.length_cons, List.length_nil]; omega))
  clear hrow' hgrow hgr HS
  go_wp2_with ((at_builtin; refine wpList_add rfl (.tmp 366) (.tmp 367) rfl lo _ (s ++ [194]) [133] rfl (World.ownsRow.alloc HS0.out.r8 _) ⟨w0'.heap.size, 0, none⟩ 1 1 rfl rfl (fun j hj => by rw [Addr.add_lit]; obtain rfl : j = 0 := Nat.lt_one_iff.1 hj; simp [World.cell?_alloc_new]) (by have := HS0.out.sz; have := HS0.out.here.fro.2; have := HS0.out.here.len; simp only [List.length_cons, List.length_nil]; omega) (Nat.le_trans (Nat.le_trans (Nat.le_of_eq HLOW.out.symm) HS0.out.kp.size) (by simp)) ?_))
  intro v1 w1' hrow' hgrow hgr
  have HS1 := Lib.hid (HS0.out.add8 HFAR.out HLOW.out (below_alloc _ _) hrow' hgrow hgr (by have := HB.out; simp only [List.length_append, List.length_cons, List.length_nil]; omega))
  clear hrow' hgrow hgr HS0
  go_wp2_with fail
  exact HKK.out _ _ _ ⟨rfl, rfl, rfl, rfl, rfl, rfl, rfl, rfl, rfl, rfl, rfl⟩ HS1.out rfl
set_option maxHeartbeats 32000000 in
set_option maxRecDepth 100000 in
theorem sw_95 {k : Kn} {p t mk lo : Nat} {s0 s1 s2 : Int} {L0 : List Value} {w1 : World} (hC : Cx k p mk lo s0 s1 s2 L0 w1) {sg : Bool} {c u col : Nat} {r s lb tb ws : List Int} {sv lbv tbv wsv : Value} {lbr : Bool} {a : Act} {w : World} {K : Act → World → Prop} {Q : Exit → Act → World → Prop} (hF : Fm sg p t mk sv lbv tbv wsv lbr a) (hS : St k p lo L0 w1 c u col (92 :: 95 :: r) s lb tb ws sv lbv tbv wsv w) (hu : 2 ≤ u) (h13 : gt a 13 = .int .i64 0) (hb : s.length + lb.length + tb.length + ws.length + 4 ≤ 4 * c)
    (hK : ∀ a' w' v', Fm sg p t mk v' lbv tbv wsv lbr a' → St k p lo L0 w1 c u col (92 :: 95 :: r) (s ++ [194, 160]) lb tb ws v' lbv tbv wsv w' → gt a' 13 = .int .i64 0 → K a' w') :
    cSw.wp Tryd.prog (Exit.then K Q) a w := by
  obtain ⟨bp, bl, mi, ml, z, L, h1, h24, h25, h26, h19, m1, m2, m3, ho⟩ := hS.here.ex
  have hsm := h1.small
  obtain ⟨c16, f16⟩ := at_ h1.pb 16 h1.at16
  obtain ⟨c17, f17⟩ := at_ h1.pb 17 h1.at17
  obtain ⟨c18, f18⟩ := at_ h1.pb 18 h1.at18
  obtain ⟨c26, f26⟩ := at_ h1.pb 26 h26
  have j2 : (bl : Int) ≤ 541 := by omega
  have j0 : (0 : Int) ≤ (bp : Int) := by omega
  obtain ⟨y0, z0, hok0, hlay0⟩ := peek h1 [] (92 :: 95 :: r) (by simpa using hS.here.fro) (by simpa using hS.here.ch) (by simp) (by simp; omega)
  obtain ⟨x0, HX0⟩ : ∃ x0, Hid (fb (92 :: 95 :: r) = x0) := ⟨_, rfl⟩
  rw [HX0.out] at hok0 hlay0
  have hx0 := hlay0.hx
  have hj0 : (bp : Int) + 0 < (bl : Int) := by have := hlay0.hi; simp at this; omega
  simp only [List.length_nil, List.length_cons, Nat.zero_add, Nat.add_zero] at hlay0 hx0
  have hj0' : (bp : Int) < (bl : Int) := by omega
  obtain rfl : x0 = 92 := HX0.out.symm.trans (fb_small (by omega))
  obtain ⟨y1, z1, hok1, hlay1⟩ := peek h1 [92] (95 :: r) (by simpa using hS.here.fro) (by simpa using hS.here.ch) (by simp) (by simp; omega)
  obtain ⟨x1, HX1⟩ : ∃ x1, Hid (fb (95 :: r) = x1) := ⟨_, rfl⟩
  rw [HX1.out] at hok1 hlay1
  have hx1 := hlay1.hx
  have hj1 : (bp : Int) + 1 < (bl : Int) := by have := hlay1.hi; simp at this; omega
  simp only [List.length_nil, List.length_cons, Nat.zero_add, Nat.add_zero] at hlay1 hx1
  obtain rfl : x1 = 95 := HX1.out.symm.trans (fb_small (by omega))
  have HB := Lib.hid hb
  have HFAR := Lib.hid hC.far
  have HLOW := Lib.hid hC.low
  have HKK := Lib.hid hK
  obtain ⟨wq, hwq⟩ : ∃ wq : Nat → World, ∀ n, wq n = w.drewN n := ⟨fun n => w.drewN n, fun _ => rfl⟩
  rw [lit717 a hF.size hF.defers, hF.s0, hF.s1, hF.s2, hF.s7, hF.s8, hF.s9, hF.s10, hF.s11, hF.s12, h13]
  have HS0 := Lib.hid hS
  clear h1 h24 h25 h26 h19 ho hC hF hS hK hok0 hlay0 hok1 hlay1 hb h13
  conv => arg 2; whnf
  try simp only [List.append]
  go_wp2_with fail
  go_quiet (fail)
  obtain ⟨wd, hwd⟩ : ∃ wd : World, wd = w.drewN nq := ⟨_, rfl⟩
  have HS : Hid (St k p lo L0 w1 c u col (92 :: 95 :: r) s lb tb ws sv lbv tbv wsv wd) := by rw [hwd]; exact HS0.out.drewN nq
  rw [← hwd]
  clear hwd HS0 hwq c16 f16 c17 f17 c18 f18 c26 f26 hx0 hx1
  go_wp2_with ((at_builtin; refine wpList_add rfl (.tmp 371) (.tmp 372) rfl lo _ s [194] rfl (World.ownsRow.alloc HS.out.r8 _) ⟨wd.heap.size, 0, none⟩ 1 1 rfl rfl (fun j hj => by rw [Addr.add_lit]; obtain rfl : j = 0 := Nat.lt_one_iff.1 hj; simp [World.cell?_alloc_new]) (by have := HS.out.sz; have := HS.out.here.fro.2; have := HS.out.here.len; simp only [List.length_cons, List.length_nil]; omega) (Nat.le_trans (Nat.le_trans (Nat.le_of_eq HLOW.out.symm) HS.out.kp.size) (by simp)) ?_))
  intro v0 w0' hrow' hgrow hgr
  have HS0 := Lib.hid (HS.out.add8 HFAR.out HLOW.out (below_alloc _ _) hrow' hgrow hgr (by have := HB.out; simp only [List.length_append, List.length_cons, List.length_nil]; omega))
  clear hrow' hgrow hgr HS
  go_wp2_with ((at_builtin; refine wpList_add rfl (.tmp 374) (.tmp 375) rfl lo _ (s ++ [194]) [160] rfl (World.ownsRow.alloc HS0.out.r8 _) ⟨w0'.heap.size, 0, none⟩ 1 1 rfl rfl (fun j hj => by rw [Addr.add_lit]; obtain rfl : j = 0 := Nat.lt_one_iff.1 hj; simp [World.cell?_alloc_new]) (by have := HS0.out.sz; have := HS0.out.here.fro.2; have := HS0.out.here.len; simp only [List.length_cons, List.length_nil]; omega) (Nat.le_trans (Nat.le_trans (Nat.le_of_eq HLOW.out.symm) HS0.out.kp.size) (by simp)) ?_))
  intro v1 w1' hrow' hgrow hgr
  have HS1 := Lib.hid (HS0.out.add8 HFAR.out HLOW.out (below_alloc _ _) hrow' hgrow hgr (by have := HB.out; simp only [List.length_append, List.length_cons, List.length_nil]; omega))
  clear hrow' hgrow hgr HS0
  go_wp2_with fail
  exact HKK.out _ _ _ ⟨rfl, rfl, rfl, rfl, rfl, rfl, rfl, rfl, rfl, rfl, rfl⟩ HS1.out rfl
set_option maxHeartbeats 32000000 in
set_option maxRecDepth 100000 in
theorem sw_80 {k : Kn} {p t mk lo : Nat} {s0 s1 s2 : Int} {L0 : List Value} {w1 : World} (hC : Cx k p mk lo s0 s1 s2 L0 w1) {sg : Bool} {c u col : Nat} {r s lb tb ws : List Int} {sv lbv tbv wsv : Value} {lbr : Bool} {a : Act} {w : World} {K : Act → World → Prop} {Q : Exit → Act → World → Prop} (hF : Fm sg p t mk sv lbv tbv wsv lbr a) (hS : St k p lo L0 w1 c u col (92 :: 80 :: r) s lb tb ws sv lbv tbv wsv w) (hu : 2 ≤ u) (h13 : gt a 13 = .int .i64 0) (hb : s.length + lb.length + tb.length + ws.length + 4 ≤ 4 * c)
    (hK : ∀ a' w' v', Fm sg p t mk v' lbv tbv wsv lbr a' → St k p lo L0 w1 c u col (92 :: 80 :: r) (s ++ [226, 128, 169]) lb tb ws v' lbv tbv wsv w' → gt a' 13 = .int .i64 0 → K a' w') :
    cSw.wp Tryd.prog (Exit.then K Q) a w := by
  obtain ⟨bp, bl, mi, ml, z, L, h1, h24, h25, h26, h19, m1, m2, m3, ho⟩ := hS.here.ex
  have hsm := h1.small
  obtain ⟨c16, f16⟩ := at_ h1.pb 16 h1.at16
  obtain ⟨c17, f17⟩ := at_ h1.pb 17 h1.at17
  obtain ⟨c18, f18⟩ := at_ h1.pb 18 h1.at18
  obtain ⟨c26, f26⟩ := at_ h1.pb 26 h26
  have j2 : (bl : Int) ≤ 541 := by omega
  have j0 : (0 : Int) ≤ (bp : Int) := by omega
  obtain ⟨y0, z0, hok0, hlay0⟩ := peek h1 [] (92 :: 80 :: r) (by simpa using hS.here.fro) (by simpa using hS.here.ch) (by simp) (by simp; omega)
  obtain ⟨x0, HX0⟩ : ∃ x0, Hid (fb (92 :: 80 :: r) = x0) := ⟨_, rfl⟩
  rw [HX0.out] at hok0 hlay0
  have hx0 := hlay0.hx
  have hj0 : (bp : Int) + 0 < (bl : Int) := by have := hlay0.hi; simp at this; omega
  simp only [List.length_nil, List.length_cons, Nat.zero_add, Nat.add_zero] at hlay0 hx0
  have hj0' : (bp : Int) < (bl : Int) := by omega
  obtain rfl : x0 = 92 := HX0.out.symm.trans (fb_small (by omega))
  obtain ⟨y1, z1, hok1, hlay1⟩ := peek h1 [92] (80 :: r) (by simpa using hS.here.fro) (by simpa using hS.here.ch) (by simp) (by simp; omega)
  obtain ⟨x1, HX1⟩ : ∃ x1, Hid (fb (80 :: r) = x1) := ⟨_, rfl⟩
  rw [HX1.out] at hok1 hlay1
  have hx1 := hlay1.hx
  have hj1 : (bp : Int) + 1 < (bl : Int) := by have := hlay1.hi; simp at this; omega
  simp only [List.length_nil, List.length_cons, Nat.zero_add, Nat.add_zero] at hlay1 hx1
  obtain rfl : x1 = 80 := HX1.out.symm.trans (fb_small (by omega))
  have HB := Lib.hid hb
  have HFAR := Lib.hid hC.far
  have HLOW := Lib.hid hC.low
  have HKK := Lib.hid hK
  obtain ⟨wq, hwq⟩ : ∃ wq : Nat → World, ∀ n, wq n = w.drewN n := ⟨fun n => w.drewN n, fun _ => rfl⟩
  rw [lit717 a hF.size hF.defers, hF.s0, hF.s1, hF.s2, hF.s7, hF.s8, hF.s9, hF.s10, hF.s11, hF.s12, h13]
  have HS0 := Lib.hid hS
  clear h1 h24 h25 h26 h19 ho hC hF hS hK hok0 hlay0 hok1 hlay1 hb h13
  conv => arg 2; whnf
  try simp only [List.append]
  go_wp2_with fail
  go_quiet (fail)
  obtain ⟨wd, hwd⟩ : ∃ wd : World, wd = w.drewN nq := ⟨_, rfl⟩
  have HS : Hid (St k p lo L0 w1 c u col (92 :: 80 :: r) s lb tb ws sv lbv tbv wsv wd) := by rw [hwd]; exact HS0.out.drewN nq
  rw [← hwd]
  clear hwd HS0 hwq c16 f16 c17 f17 c18 f18 c26 f26 hx0 hx1
  go_wp2_with ((at_builtin; refine wpList_add rfl (.tmp 390) (.tmp 391) rfl lo _ s [226] rfl (World.ownsRow.alloc HS.out.r8 _) ⟨wd.heap.size, 0, none⟩ 1 1 rfl rfl (fun j hj => by rw [Addr.add_lit]; obtain rfl : j = 0 := Nat.lt_one_iff.1 hj; simp [World.cell?_alloc_new]) (by have := HS.out.sz; have := HS.out.here.fro.2; have := HS.out.here.len; simp only [List.length_cons, List.length_nil]; omega) (Nat.le_trans (Nat.le_trans (Nat.le_of_eq HLOW.out.symm) HS.out.kp.size) (by simp)) ?_))
  intro v0 w0' hrow' hgrow hgr
  have HS0 := Lib.hid (HS.out.add8 HFAR.out HLOW.out (below_alloc _ _) hrow' hgrow hgr (by have := HB.out; simp only [List.length_append, List.length_cons, List.length_nil]; omega))
  clear hrow' hgrow hgr HS
  go_wp2_with ((at_builtin; refine wpList_add rfl (.tmp 393) (.tmp 394) rfl lo _ (s ++ [226]) [128] rfl (World.ownsRow.alloc HS0.out.r8 _) ⟨w0'.heap.size, 0, none⟩ 1 1 rfl rfl (fun j hj => by rw [Addr.add_lit]; obtain rfl : j = 0 := Nat.lt_one_iff.1 hj; simp [World.cell?_alloc_new]) (by have := HS0.out.sz; have := HS0.out.here.fro.2; have := HS0.out.here.len; simp only [List.length_cons, List.length_nil]; omega) (Nat.le_trans (Nat.le_trans (Nat.le_of_eq HLOW.out.symm) HS0.out.kp.size) (by simp)) ?_))
  intro v1 w1' hrow' hgrow hgr
  have HS1 := Lib.hid (HS0.out.add8 HFAR.out HLOW.out (below_alloc _ _) hrow' hgrow hgr (by have := HB.out; simp only [List.length_append, List.length_cons, List.length_nil]; omega))
  clear hrow' hgrow hgr HS0
  go_wp2_with ((at_builtin; refine wpList_add rfl (.tmp 396) (.tmp 397) rfl lo _ (s ++ [226, 128]) [169] rfl (World.ownsRow.alloc HS1.out.r8 _) ⟨w1'.heap.size, 0, none⟩ 1 1 rfl rfl (fun j hj => by rw [Addr.add_lit]; obtain rfl : j = 0 := Nat.lt_one_iff.1 hj; simp [World.cell?_alloc_new]) (by have := HS1.out.sz; have := HS1.out.here.fro.2; have := HS1.out.here.len; simp only [List.length_cons, List.length_nil]; omega) (Nat.le_trans (Nat.le_trans (Nat.le_of_eq HLOW.out.symm) HS1.out.kp.size) (by simp)) ?_))
  intro v2 w2' hrow' hgrow hgr
  have HS2 := Lib.hid (HS1.out.add8 HFAR.out HLOW.out (below_alloc _ _) hrow' hgrow hgr (by have := HB.out; simp only [List.length_append, List.length_cons, List.length_nil]; omega))
  clear hrow' hgrow hgr HS1
  go_wp2_with fail
  exact HKK.out _ _ _ ⟨rfl, rfl, rfl, rfl, rfl, rfl, rfl, rfl, rfl, rfl, rfl⟩ HS2.out rfl
set_option maxHeartbeats 32000000 in
set_option maxRecDepth 100000 in
theorem sw_117 {k : Kn} {p t mk lo : Nat} {s0 s1 s2 : Int} {L0 : List Value} {w1 : World} (hC : Cx k p mk lo s0 s1 s2 L0 w1) {sg : Bool} {c u col : Nat} {r s lb tb ws : List Int} {sv lbv tbv wsv : Value} {lbr : Bool} {a : Act} {w : World} {K : Act → World → Prop} {Q : Exit → Act → World → Prop} (hF : Fm sg p t mk sv lbv tbv wsv lbr a) (hS : St k p lo L0 w1 c u col (92 :: 117 :: r) s lb tb ws sv lbv tbv wsv w) (hu : 2 ≤ u) (h13 : gt a 13 = .int .i64 0) 
    (hK : ∀ a' w', Fm sg p t mk sv lbv tbv wsv lbr a' → St k p lo L0 w1 c u col (92 :: 117 :: r) s lb tb ws sv lbv tbv wsv w' → gt a' 13 = .int .i64 4 → K a' w') :
    cSw.wp Tryd.prog (Exit.then K Q) a w := by
  obtain ⟨bp, bl, mi, ml, z, L, h1, h24, h25, h26, h19, m1, m2, m3, ho⟩ := hS.here.ex
  have hsm := h1.small
  obtain ⟨c16, f16⟩ := at_ h1.pb 16 h1.at16
  obtain ⟨c17, f17⟩ := at_ h1.pb 17 h1.at17
  obtain ⟨c18, f18⟩ := at_ h1.pb 18 h1.at18
  obtain ⟨c26, f26⟩ := at_ h1.pb 26 h26
  have j2 : (bl : Int) ≤ 541 := by omega
  have j0 : (0 : Int) ≤ (bp : Int) := by omega
  obtain ⟨y0, z0, hok0, hlay0⟩ := peek h1 [] (92 :: 117 :: r) (by simpa using hS.here.fro) (by simpa using hS.here.ch) (by simp) (by simp; omega)
  obtain ⟨x0, HX0⟩ : ∃ x0, Hid (fb (92 :: 117 :: r) = x0) := ⟨_, rfl⟩
  rw [HX0.out] at hok0 hlay0
  have hx0 := hlay0.hx
  have hj0 : (bp : Int) + 0 < (bl : Int) := by have := hlay0.hi; simp at this; omega
  simp only [List.length_nil, List.length_cons, Nat.zero_add, Nat.add_zero] at hlay0 hx0
  have hj0' : (bp : Int) < (bl : Int) := by omega
  obtain rfl : x0 = 92 := HX0.out.symm.trans (fb_small (by omega))
  obtain ⟨y1, z1, hok1, hlay1⟩ := peek h1 [92] (117 :: r) (by simpa using hS.here.fro) (by simpa using hS.here.ch) (by simp) (by simp; omega)
  obtain ⟨x1, HX1⟩ : ∃ x1, Hid (fb (117 :: r) = x1) := ⟨_, rfl⟩
  rw [HX1.out] at hok1 hlay1
  have hx1 := hlay1.hx
  have hj1 : (bp : Int) + 1 < (bl : Int) := by have := hlay1.hi; simp at this; omega
  simp only [List.length_nil, List.length_cons, Nat.zero_add, Nat.add_zero] at hlay1 hx1
  obtain rfl : x1 = 117 := HX1.out.symm.trans (fb_small (by omega))
  have HKK := Lib.hid hK
  have HS := Lib.hid hS
  rw [lit717 a hF.size hF.defers, hF.s0, hF.s1, hF.s2, hF.s7, hF.s8, hF.s9, hF.s10, hF.s11, hF.s12, h13]
  clear h1 h24 h25 h26 h19 ho hC hF hS hK hok0 hlay0 hok1 hlay1 h13
  conv => arg 2; whnf
  try simp only [List.append]
  go_wp2_with fail
  go_quiet (fail)
  go_wp2_with fail
  exact HKK.out _ _ ⟨rfl, rfl, rfl, rfl, rfl, rfl, rfl, rfl, rfl, rfl, rfl⟩ (HS.out.drewN _) rfl
set_option maxHeartbeats 32000000 in
set_option maxRecDepth 100000 in
theorem sw_85 {k : Kn} {p t mk lo : Nat} {s0 s1 s2 : Int} {L0 : List Value} {w1 : World} (hC : Cx k p mk lo s0 s1 s2 L0 w1) {sg : Bool} {c u col : Nat} {r s lb tb ws : List Int} {sv lbv tbv wsv : Value} {lbr : Bool} {a : Act} {w : World} {K : Act → World → Prop} {Q : Exit → Act → World → Prop} (hF : Fm sg p t mk sv lbv tbv wsv lbr a) (hS : St k p lo L0 w1 c u col (92 :: 85 :: r) s lb tb ws sv lbv tbv wsv w) (hu : 2 ≤ u) (h13 : gt a 13 = .int .i64 0) 
    (hK : ∀ a' w', Fm sg p t mk sv lbv tbv wsv lbr a' → St k p lo L0 w1 c u col (92 :: 85 :: r) s lb tb ws sv lbv tbv wsv w' → gt a' 13 = .int .i64 8 → K a' w') :
    cSw.wp Tryd.prog (Exit.then K Q) a w := by
  obtain ⟨bp, bl, mi, ml, z, L, h1, h24, h25, h26, h19, m1, m2, m3, ho⟩ := hS.here.ex
  have hsm := h1.small
  obtain ⟨c16, f16⟩ := at_ h1.pb 16 h1.at16
  obtain ⟨c17, f17⟩ := at_ h1.pb 17 h1.at17
  obtain ⟨c18, f18⟩ := at_ h1.pb 18 h1.at18
  obtain ⟨c26, f26⟩ := at_ h1.pb 26 h26
  have j2 : (bl : Int) ≤ 541 := by omega
  have j0 : (0 : Int) ≤ (bp : Int) := by omega
  obtain ⟨y0, z0, hok0, hlay0⟩ := peek h1 [] (92 :: 85 :: r) (by simpa using hS.here.fro) (by simpa using hS.here.ch) (by simp) (by simp; omega)
  obtain ⟨x0, HX0⟩ : ∃ x0, Hid (fb (92 :: 85 :: r) = x0) := ⟨_, rfl⟩
  rw [HX0.out] at hok0 hlay0
  have hx0 := hlay0.hx
  have hj0 : (bp : Int) + 0 < (bl : Int) := by have := hlay0.hi; simp at this; omega
  simp only [List.length_nil, List.length_cons, Nat.zero_add, Nat.add_zero] at hlay0 hx0
  have hj0' : (bp : Int) < (bl : Int) := by omega
  obtain rfl : x0 = 92 := HX0.out.symm.trans (fb_small (by omega))
  obtain ⟨y1, z1, hok1, hlay1⟩ := peek h1 [92] (85 :: r) (by simpa using hS.here.fro) (by simpa using hS.here.ch) (by simp) (by simp; omega)
  obtain ⟨x1, HX1⟩ : ∃ x1, Hid (fb (85 :: r) = x1) := ⟨_, rfl⟩
  rw [HX1.out] at hok1 hlay1
  have hx1 := hlay1.hx
  have hj1 : (bp : Int) + 1 < (bl : Int) := by have := hlay1.hi; simp at this; omega
  simp only [List.length_nil, List.length_cons, Nat.zero_add, Nat.add_zero] at hlay1 hx1
  obtain rfl : x1 = 85 := HX1.out.symm.trans (fb_small (by omega))
  have HKK := Lib.hid hK
  have HS := Lib.hid hS
  rw [lit717 a hF.size hF.defers, hF.s0, hF.s1, hF.s2, hF.s7, hF.s8, hF.s9, hF.s10, hF.s11, hF.s12, h13]
  clear h1 h24 h25 h26 h19 ho hC hF hS hK hok0 hlay0 hok1 hlay1 h13
  conv => arg 2; whnf
  try simp only [List.append]
  go_wp2_with fail
  go_quiet (fail)
  go_wp2_with fail
  exact HKK.out _ _ ⟨rfl, rfl, rfl, rfl, rfl, rfl, rfl, rfl, rfl, rfl, rfl⟩ (HS.out.drewN _) rfl
end Go.Proofs.YtocbbekciphjgaaDoor.Qd
