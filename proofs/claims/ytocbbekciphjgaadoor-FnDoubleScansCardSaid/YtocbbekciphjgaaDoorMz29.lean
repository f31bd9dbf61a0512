/- QdSa: parts of the proof, one behind another. -/
import Derived.Test.YtocbbekciphjgaaDoorMz23
/- QdSa -/
/- What letters stand for behind a backslash, the first ones (yaml_parser_scan_flow_scalar): the walks. Printed by genQdJ.py. -/
namespace Go.Proofs.YtocbbekciphjgaaDoor.Qd
open Go.RowKit Go.Proofs.YtocbbekciphjgaaDoor.Rdp Go.Proofs.YtocbbekciphjgaaDoor.Pa Go.Proofs.YtocbbekciphjgaaDoor.Sc
set_option linter.unusedVariables false
set_option linter.unusedSimpArgs false
set_option maxHeartbeats 32000000 in
set_option maxRecDepth 100000 in
theorem sw_97 {k : Kn} {p t mk lo : Nat} {s0 s1 s2 : Int} {L0 : List Value} {w1 : World} (hC : Cx k p mk lo s0 s1 s2 L0 w1) {sg : Bool} {c u col : Nat} {r s lb tb ws : List Int} {sv lbv tbv wsv : Value} {lbr : Bool} {a : Act} {w : World} {K : Act → World → Prop} {Q : Exit → Act → World → Prop} (hF : Fm sg p t mk sv lbv tbv wsv lbr a) (hS : St k p lo L0 w1 c u col (92 :: 97 :: r) s lb tb ws sv lbv tbv wsv w) (hu : 2 ≤ u) (h13 : gt a 13 = .int .i64 0) (hb : s.length + lb.length + tb.length + ws.length + 4 ≤ 4 * c)
    (hK : ∀ a' w' v', Fm sg p t mk v' lbv tbv wsv lbr a' → St k p lo L0 w1 c u col (92 :: 97 :: r) (s ++ [7]) lb tb ws v' lbv tbv wsv w' → gt a' 13 = .int .i64 0 → K a' w') :
    cSw.wp Tryd.prog (Exit.then K Q) a w := by
  obtain ⟨bp, bl, mi, ml, z, L, h1, h24, h25, h26, h19, m1, m2, m3, ho⟩ := hS.here.ex
  have hsm := h1.small
  obtain ⟨c16, f16⟩ := at_ h1.pb 16 h1.at16
  obtain ⟨c17, f17⟩ := at_ h1.pb 17 h1.at17
  obtain ⟨c18, f18⟩ := at_ h1.pb 18 h1.at18
  obtain ⟨c26, f26⟩ := at_ h1.pb 26 h26
  have j2 : (bl : Int) ≤ 541 := by omega
  have j0 : (0 : Int) ≤ (bp : Int) := by omega
  obtain ⟨y0, z0, hok0, hlay0⟩ := peek h1 [] (92 :: 97 :: r) (by simpa using hS.here.fro) (by simpa using hS.here.ch) (by simp) (by simp; omega)
  obtain ⟨x0, HX0⟩ : ∃ x0, Hid (fb (92 :: 97 :: r) = x0) := ⟨_, rfl⟩
  rw [HX0.out] at hok0 hlay0
  have hx0 := hlay0.hx
  have hj0 : (bp : Int) + 0 < (bl : Int) := by have := hlay0.hi; simp at this; omega
  simp only [List.length_nil, List.length_cons, Nat.zero_add, Nat.add_zero] at hlay0 hx0
  have hj0' : (bp : Int) < (bl : Int) := by omega
  obtain rfl : x0 = 92 := HX0.out.symm.trans (fb_small (by omega))
  obtain ⟨y1, z1, hok1, hlay1⟩ := peek h1 [92] (97 :: r) (by simpa using hS.here.fro) (by simpa using hS.here.ch) (by simp) (by simp; omega)
  obtain ⟨x1, HX1⟩ : ∃ x1, Hid (fb (97 :: r) = x1) := ⟨_, rfl⟩
  rw [HX1.out] at hok1 hlay1
  have hx1 := hlay1.hx
  have hj1 : (bp : Int) + 1 < (bl : Int) := by have := hlay1.hi; simp at this; omega
  simp only [List.length_nil, List.length_cons, Nat.zero_add, Nat.add_zero] at hlay1 hx1
  obtain rfl : x1 = 97 := HX1.out.symm.trans (fb_small (by omega))
  have HB := Lib.hid hb
  have HFAR := Lib.hid hC.far
  have HLOW := Lib.hid hC.low
  have HKK := Lib.hid hK
  obtain ⟨wq, hwq⟩ : ∃ wq : Nat → World, ∀ n, wq n = w.drewN n := ⟨fun n => w.drewN n, fun _ => rfl⟩
  rw [lit717 a hF.size hF.defers, hF.s0, hF.s1, hF.s2, hF.s7, hF.s8, hF.s9, hF.s10, hF.s11, hF.s12, h13]
  have HS0 := Lib.hid hS
  clear h1 h24 h25 h26 h19 ho hC hF hS hK hok0 hlay0 hok1 hlay1 hb h13
  conv => arg 2; whnf
  try simp only [List.append]
  go_wp2_with fail
  go_quiet (fail)
  obtain ⟨wd, hwd⟩ : ∃ wd : World, wd = w.drewN nq := ⟨_, rfl⟩
  have HS : Hid (St k p lo L0 w1 c u col (92 :: 97 :: r) s lb tb ws sv lbv tbv wsv wd) := by rw [hwd]; exact HS0.out.drewN nq
  rw [← hwd]
  clear hwd HS0 hwq c16 f16 c17 f17 c18 f18 c26 f26 hx0 hx1
  go_wp2_with ((at_builtin; refine wpList_add rfl (.tmp 302) (.tmp 303) rfl lo _ s [7] rfl (World.ownsRow.alloc HS.out.r8 _) ⟨wd.heap.size, 0, none⟩ 1 1 rfl rfl (fun j hj => by rw [Addr.add_lit]; obtain rfl : j = 0 := Nat.lt_one_iff.1 hj; simp [World.cell?_alloc_new]) (by have := HS.out.sz; have := HS.out.here.fro.2; have := HS.out.here.len; simp only [List.length_cons, List.length_nil]; omega) (Nat.le_trans (Nat.le_trans (Nat.le_of_eq HLOW.out.symm) HS.out.kp.size) (by simp)) ?_))
  intro v0 w0' hrow' hgrow hgr
  have HS0 := Lib.hid (HS.out.add8 HFAR.out HLOW.out (below_alloc _ _) hrow' hgrow hgr (by have := HB.out; simp only [List.length_append, List.length_cons, List.length_nil]; omega))
  clear hrow' hgrow hgr HS
  go_wp2_with fail
  exact HKK.out _ _ _ ⟨rfl, rfl, rfl, rfl, rfl, rfl, rfl, rfl, rfl, rfl, rfl⟩ HS0.out rfl
set_option maxHeartbeats 32000000 in
set_option maxRecDepth 100000 in
theorem sw_98 {k : Kn} {p t mk lo : Nat} {s0 s1 s2 : Int} {L0 : List Value} {w1 : World} (hC : Cx k p mk lo s0 s1 s2 L0 w1) {sg : Bool} {c u col : Nat} {r s lb tb ws : List Int} {sv lbv tbv wsv : Value} {lbr : Bool} {a : Act} {w : World} {K : Act → World → Prop} {Q : Exit → Act → World → Prop} (hF : Fm sg p t mk sv lbv tbv wsv lbr a) (hS : St k p lo L0 w1 c u col (92 :: 98 :: r) s lb tb ws sv lbv tbv wsv w) (hu : 2 ≤ u) (h13 : gt a 13 = .int .i64 0) (hb : s.length + lb.length + tb.length + ws.length + 4 ≤ 4 * c)
    (hK : ∀ a' w' v', Fm sg p t mk v' lbv tbv wsv lbr a' → St k p lo L0 w1 c u col (92 :: 98 :: r) (s ++ [8]) lb tb ws v' lbv tbv wsv w' → gt a' 13 = .int .i64 0 → K a' w') :
    cSw.wp Tryd.prog (Exit.then K Q) a w := by
  obtain ⟨bp, bl, mi, ml, z, L, h1, h24, h25, h26, h19, m1, m2, m3, ho⟩ := hS.here.ex
  have hsm := h1.small
  obtain ⟨c16, f16⟩ := at_ h1.pb 16 h1.at16
  obtain ⟨c17, f17⟩ := at_ h1.pb 17 h1.at17
  obtain ⟨c18, f18⟩ := at_ h1.pb 18 h1.at18
  obtain ⟨c26, f26⟩ := at_ h1.pb 26 h26
  have j2 : (bl : Int) ≤ 541 := by omega
  have j0 : (0 : Int) ≤ (bp : Int) := by omega
  obtain ⟨y0, z0, hok0, hlay0⟩ := peek h1 [] (92 :: 98 :: r) (by simpa using hS.here.fro) (by simpa using hS.here.ch) (by simp) (by simp; omega)
  obtain ⟨x0, HX0⟩ : ∃ x0, Hid (fb (92 :: 98 :: r) = x0) := ⟨_, rfl⟩
  rw [HX0.out] at hok0 hlay0
  have hx0 := hlay0.hx
  have hj0 : (bp : Int) + 0 < (bl : Int) := by have := hlay0.hi; simp at this; omega
  simp only [List.length_nil, List.length_cons, Nat.zero_add, Nat.add_zero] at hlay0 hx0
  have hj0' : (bp : Int) < (bl : Int) := by omega
  obtain rfl : x0 = 92 := HX0.out.symm.trans (fb_small (by omega))
  obtain ⟨y1, z1, hok1, hlay1⟩ := peek h1 [92] (98 :: r) (by simpa using hS.here.fro) (by simpa using hS.here.ch) (by simp) (by simp; omega)
  obtain ⟨x1, HX1⟩ : ∃ x1, Hid (fb (98 :: r) = x1) := ⟨_, rfl⟩
  rw [HX1.out] at hok1 hlay1
  have hx1 := hlay1.hx
  have hj1 : (bp : Int) + 1 < (bl : Int) := by have := hlay1.hi; simp at this; omega
  simp only [List.length_nil, List.length_cons, Nat.zero_add, Nat.add_zero] at hlay1 hx1
  obtain rfl : x1 = 98 := HX1.out.symm.trans (fb_small (by omega))
  have HB := Lib.hid hb
  have HFAR := Lib.hid hC.far
  have HLOW := Lib.hid hC.low
  have HKK := Lib.hid hK
  obtain ⟨wq, hwq⟩ : ∃ wq : Nat → World, ∀ n, wq n = w.drewN n := ⟨fun n => w.drewN n, fun _ => rfl⟩
  rw [lit717 a hF.size hF.defers, hF.s0, hF.s1, hF.s2, hF.s7, hF.s8, hF.s9, hF.s10, hF.s11, hF.s12, h13]
  have HS0 := Lib.hid hS
  clear h1 h24 h25 h26 h19 ho hC hF hS hK hok0 hlay0 hok1 hlay1 hb h13
  conv => arg 2; whnf
  try simp only [List.append]
  go_wp2_with fail
  go_quiet (fail)
  obtain ⟨wd, hwd⟩ : ∃ wd : World, wd = w.drewN nq := ⟨_, rfl⟩
  have HS : Hid (St k p lo L0 w1 c u col (92 :: 98 :: r) s lb tb ws sv lbv tbv wsv wd) := by rw [hwd]; exact HS0.out.drewN nq
  rw [← hwd]
  clear hwd HS0 hwq c16 f16 c17 f17 c18 f18 c26 f26 hx0 hx1
  go_wp2_with ((at_builtin; refine wpList_add rfl (.tmp 307) (.tmp 308) rfl lo _ s [8] rfl (World.ownsRow.alloc HS.out.r8 _) ⟨wd.heap.size, 0, none⟩ 1 1 rfl rfl (fun j hj => by rw [Addr.add_lit]; obtain rfl : j = 0 := Nat.lt_one_iff.1 hj; simp [World.cell?_alloc_new]) (by have := HS.out.sz; have := HS.out.here.fro.2; have := HS.out.here.len; simp only [List.length_cons, List.length_nil]; omega) (Nat.le_trans (Nat.le_trans (Nat.le_of_eq HLOW.out.symm) HS.out.kp.size) (by simp)) ?_))
  intro v0 w0' hrow' hgrow hgr
  have HS0 := Lib.hid (HS.out.add8 HFAR.out HLOW.out (below_alloc _ _) hrow' hgrow hgr (by have := HB.out; simp only [List.length_append, List.length_cons, List.length_nil]; omega))
  clear hrow' hgrow hgr HS
  go_wp2_with fail
  exact HKK.out _ _ _ ⟨rfl, rfl, rfl, rfl, rfl, rfl, rfl, rfl, rfl, rfl, rfl⟩ HS0.out rfl
set_option maxHeartbeats 32000000 in
set_option maxRecDepth 100000 in
theorem sw_116 {k : Kn} {p t mk lo : Nat} {s0 s1 s2 : Int} {L0 : List Value} {w1 : World} (hC : Cx k p mk lo s0 s1 s2 L0 w1) {sg : Bool} {c u col : Nat} {r s lb tb ws : List Int} {sv lbv tbv wsv : Value} {lbr : Bool} {a : Act} {w : World} {K : Act → World → Prop} {Q : Exit → Act → World → Prop} (hF : Fm sg p t mk sv lbv tbv wsv lbr a) (hS : St k p lo L0 w1 c u col (92 :: 116 :: r) s lb tb ws sv lbv tbv wsv w) (hu : 2 ≤ u) (h13 : gt a 13 = .int .i64 0) (hb : s.length + lb.length + tb.length + ws.length + 4 ≤ 4 * c)
    (hK : ∀ a' w' v', Fm sg p t mk v' lbv tbv wsv lbr a' → St k p lo L0 w1 c u col (92 :: 116 :: r) (s ++ [9]) lb tb ws v' lbv tbv wsv w' → gt a' 13 = .int .i64 0 → K a' w') :
    cSw.wp Tryd.prog (Exit.then K Q) a w := by
  obtain ⟨bp, bl, mi, ml, z, L, h1, h24, h25, h26, h19, m1, m2, m3, ho⟩ := hS.here.ex
  have hsm := h1.small
  obtain ⟨c16, f16⟩ := at_ h1.pb 16 h1.at16
  obtain ⟨c17, f17⟩ := at_ h1.pb 17 h1.at17
  obtain ⟨c18, f18⟩ := at_ h1.pb 18 h1.at18
  obtain ⟨c26, f26⟩ := at_ h1.pb 26 h26
  have j2 : (bl : Int) ≤ 541 := by omega
  have j0 : (0 : Int) ≤ (bp : Int) := by omega
  obtain ⟨y0, z0, hok0, hlay0⟩ := peek h1 [] (92 :: 116 :: r) (by simpa using hS.here.fro) (by simpa using hS.here.ch) (by simp) (by simp; omega)
  obtain ⟨x0, HX0⟩ : ∃ x0, Hid (fb (92 :: 116 :: r) = x0) := ⟨_, rfl⟩
  rw [HX0.out] at hok0 hlay0
  have hx0 := hlay0.hx
  have hj0 : (bp : Int) + 0 < (bl : Int) := by have := hlay0.hi; simp at this; omega
  simp only [List.length_nil, List.length_cons, Nat.zero_add, Nat.add_zero] at hlay0 hx0
  have hj0' : (bp : Int) < (bl : Int) := by omega
  obtain rfl : x0 = 92 := HX0.out.symm.trans (fb_small (by omega))
  obtain ⟨y1, z1, hok1, hlay1⟩ := peek h1 [92] (116 :: r) (by simpa using hS.here.fro) (by simpa using hS.here.ch) (by simp) (by simp; omega)
  obtain ⟨x1, HX1⟩ : ∃ x1, Hid (fb (116 :: r) = x1) := ⟨_, rfl⟩
  rw [HX1.out] at hok1 hlay1
  have hx1 := hlay1.hx
  have hj1 : (bp : Int) + 1 < (bl : Int) := by have := hlay1.hi; simp at this; omega
  simp only [List.length_nil, List.length_cons, Nat.zero_add, Nat.add_zero] at hlay1 hx1
  obtain rfl : x1 = 116 := HX1.out.symm.trans (fb_small (by omega))
  have HB := Lib.hid hb
  have HFAR := Lib.hid hC.far
  have HLOW := Lib.hid hC.low
  have HKK := Lib.hid hK
  obtain ⟨wq, hwq⟩ : ∃ wq : Nat → World, ∀ n, wq n = w.drewN n := ⟨fun n => w.drewN n, fun _ => rfl⟩
  rw [lit717 a hF.size hF.defers, hF.s0, hF.s1, hF.s2, hF.s7, hF.s8, hF.s9, hF.s10, hF.s11, hF.s12, h13]
  have HS0 := Lib.hid hS
  clear h1 h24 h25 h26 h19 ho hC hF hS hK hok0 hlay0 hok1 hlay1 hb h13
  conv => arg 2; whnf
  try simp only [List.append]
  go_wp2_with fail
  go_quiet (fail)
  obtain ⟨wd, hwd⟩ : ∃ wd : World, wd = w.drewN nq := ⟨_, rfl⟩
  have HS : Hid (St k p lo L0 w1 c u col (92 :: 116 :: r) s lb tb ws sv lbv tbv wsv wd) := by rw [hwd]; exact HS0.out.drewN nq
  rw [← hwd]
  clear hwd HS0 hwq c16 f16 c17 f17 c18 f18 c26 f26 hx0 hx1
  go_wp2_with ((at_builtin; refine wpList_add rfl (.tmp 313) (.tmp 314) rfl lo _ s [9] rfl (World.ownsRow.alloc HS.out.r8 _) ⟨wd.heap.size, 0, none⟩ 1 1 rfl rfl (fun j hj => by rw [Addr.add_lit]; obtain rfl : j = 0 := Nat.lt_one_iff.1 hj; simp [World.cell?_alloc_new]) (by have := HS.out.sz; have := HS.out.here.fro.2; have := HS.out.here.len; simp only [List.length_cons, List.length_nil]; omega) (Nat.le_trans (Nat.le_trans (Nat.le_of_eq HLOW.out.symm) HS.out.kp.size) (by simp)) ?_))
  intro v0 w0' hrow' hgrow hgr
  have HS0 := Lib.hid (HS.out.add8 HFAR.out HLOW.out (below_alloc _ _) hrow' hgrow hgr (by have := HB.out; simp only [List.length_append, List.length_cons, List.length_nil]; omega))
  clear hrow' hgrow hgr HS
  go_wp2_with fail
  exact HKK.out _ _ _ ⟨rfl, rfl, rfl, rfl, rfl, rfl, rfl, rfl, rfl, rfl, rfl⟩ HS0.out rfl
set_option maxHeartbeats 32000000 in
set_option maxRecDepth 100000 in
theorem sw_9 {k : Kn} {p t mk lo : Nat} {s0 s1 s2 : Int} {L0 : List Value} {w1 : World} (hC : Cx k p mk lo s0 s1 s2 L0 w1) {sg : Bool} {c u col : Nat} {r s lb tb ws : List Int} {sv lbv tbv wsv : Value} {lbr : Bool} {a : Act} {w : World} {K : Act → World → Prop} {Q : Exit → Act → World → Prop} (hF : Fm sg p t mk sv lbv tbv wsv lbr a) (hS : St k p lo L0 w1 c u col (92 :: 9 :: r) s lb tb ws sv lbv tbv wsv w) (hu : 2 ≤ u) (h13 : gt a 13 = .int .i64 0) (hb : s.length + lb.length + tb.length + ws.length + 4 ≤ 4 * c)
    (hK : ∀ a' w' v', Fm sg p t mk v' lbv tbv wsv lbr a' → St k p lo L0 w1 c u col (92 :: 9 :: r) (s ++ [9]) lb tb ws v' lbv tbv wsv w' → gt a' 13 = .int .i64 0 → K a' w') :
    cSw.wp Tryd.prog (Exit.then K Q) a w := by
  obtain ⟨bp, bl, mi, ml, z, L, h1, h24, h25, h26, h19, m1, m2, m3, ho⟩ := hS.here.ex
  have hsm := h1.small
  obtain ⟨c16, f16⟩ := at_ h1.pb 16 h1.at16
  obtain ⟨c17, f17⟩ := at_ h1.pb 17 h1.at17
  obtain ⟨c18, f18⟩ := at_ h1.pb 18 h1.at18
  obtain ⟨c26, f26⟩ := at_ h1.pb 26 h26
  have j2 : (bl : Int) ≤ 541 := by omega
  have j0 : (0 : Int) ≤ (bp : Int) := by omega
  obtain ⟨y0, z0, hok0, hlay0⟩ := peek h1 [] (92 :: 9 :: r) (by simpa using hS.here.fro) (by simpa using hS.here.ch) (by simp) (by simp; omega)
  obtain ⟨x0, HX0⟩ : ∃ x0, Hid (fb (92 :: 9 :: r) = x0) := ⟨_, rfl⟩
  rw [HX0.out] at hok0 hlay0
  have hx0 := hlay0.hx
  have hj0 : (bp : Int) + 0 < (bl : Int) := by have := hlay0.hi; simp at this; omega
  simp only [List.length_nil, List.length_cons, Nat.zero_add, Nat.add_zero] at hlay0 hx0
  have hj0' : (bp : Int) < (bl : Int) := by omega
  obtain rfl : x0 = 92 := HX0.out.symm.trans (fb_small (by omega))
  obtain ⟨y1, z1, hok1, hlay1⟩ := peek h1 [92] (9 :: r) (by simpa using hS.here.fro) (by simpa using hS.here.ch) (by simp) (by simp; omega)
  obtain ⟨x1, HX1⟩ : ∃ x1, Hid (fb (9 :: r) = x1) := ⟨_, rfl⟩
  rw [HX1.out] at hok1 hlay1
  have hx1 := hlay1.hx
  have hj1 : (bp : Int) + 1 < (bl : Int) := by have := hlay1.hi; simp at this; omega
  simp only [List.length_nil, List.length_cons, Nat.zero_add, Nat.add_zero] at hlay1 hx1
  obtain rfl : x1 = 9 := HX1.out.symm.trans (fb_small (by omega))
  have HB := Lib.hid hb
  have HFAR := Lib.hid hC.far
  have HLOW := Lib.hid hC.low
  have HKK := Lib.hid hK
  obtain ⟨wq, hwq⟩ : ∃ wq : Nat → World, ∀ n, wq n = w.drewN n := ⟨fun n => w.drewN n, fun _ => rfl⟩
  rw [lit717 a hF.size hF.defers, hF.s0, hF.s1, hF.s2, hF.s7, hF.s8, hF.s9, hF.s10, hF.s11, hF.s12, h13]
  have HS0 := Lib.hid hS
  clear h1 h24 h25 h26 h19 ho hC hF hS hK hok0 hlay0 hok1 hlay1 hb h13
  conv => arg 2; whnf
  try simp only [List.append]
  go_wp2_with fail
  go_quiet (fail)
  obtain ⟨wd, hwd⟩ : ∃ wd : World, wd = w.drewN nq := ⟨_, rfl⟩
  have HS : Hid (St k p lo L0 w1 c u col (92 :: 9 :: r) s lb tb ws sv lbv tbv wsv wd) := by rw [hwd]; exact HS0.out.drewN nq
  rw [← hwd]
  clear hwd HS0 hwq c16 f16 c17 f17 c18 f18 c26 f26 hx0 hx1
  go_wp2_with ((at_builtin; refine wpList_add rfl (.tmp 313) (.tmp 314) rfl lo _ s [9] rfl (World.ownsRow.alloc HS.out.r8 _) ⟨wd.heap.size, 0, none⟩ 1 1 rfl rfl (fun j hj => by rw [Addr.add_lit]; obtain rfl : j = 0 := Nat.lt_one_iff.1 hj; simp [World.cell?_alloc_new]) (by have := HS.out.sz; have := HS.out.here.fro.2; have := HS.out.here.len; simp only [List.length_cons, List.length_nil]; omega) (Nat.le_trans (Nat.le_trans (Nat.le_of_eq HLOW.out.symm) HS.out.kp.size) (by simp)) ?_))
  intro v0 w0' hrow' hgrow hgr
  have HS0 := Lib.hid (HS.out.add8 HFAR.out HLOW.out (below_alloc _ _) hrow' hgrow hgr (by have := HB.out; simp only [List.length_append, List.length_cons, List.length_nil]; omega))
  clear hrow' hgrow hgr HS
  go_wp2_with fail
  exact HKK.out _ _ _ ⟨rfl, rfl, rfl, rfl, rfl, rfl, rfl, rfl, rfl, rfl, rfl⟩ HS0.out rfl
set_option maxHeartbeats 32000000 in
set_option maxRecDepth 100000 in
theorem sw_110 {k : Kn} {p t mk lo : Nat} {s0 s1 s2 : Int} {L0 : List Value} {w1 : World} (hC : Cx k p mk lo s0 s1 s2 L0 w1) {sg : Bool} {c u col : Nat} {r s lb tb ws : List Int} {sv lbv tbv wsv : Value} {lbr : Bool} {a : Act} {w : World} {K : Act → World → Prop} {Q : Exit → Act → World → Prop} (hF : Fm sg p t mk sv lbv tbv wsv lbr a) (hS : St k p lo L0 w1 c u col (92 :: 110 :: r) s lb tb ws sv lbv tbv wsv w) (hu : 2 ≤ u) (h13 : gt a 13 = .int .i64 0) (hb : s.length + lb.length + tb.length + ws.length + 4 ≤ 4 * c)
    (hK : ∀ a' w' v', Fm sg p t mk v' lbv tbv wsv lbr a' → St k p lo L0 w1 c u col (92 :: 110 :: r) (s ++ [10]) lb tb ws v' lbv tbv wsv w' → gt a' 13 = .int .i64 0 → K a' w') :
    cSw.wp Tryd.prog (Exit.then K Q) a w := by
  obtain ⟨bp, bl, mi, ml, z, L, h1, h24, h25, h26, h19, m1, m2, m3, ho⟩ := hS.here.ex
  have hsm := h1.small
  obtain ⟨c16, f16⟩ := at_ h1.pb 16 h1.at16
  obtain ⟨c17, f17⟩ := at_ h1.pb 17 h1.at17
  obtain ⟨c18, f18⟩ := at_ h1.pb 18 h1.at18
  obtain ⟨c26, f26⟩ := at_ h1.pb 26 h26
  have j2 : (bl : Int) ≤ 541 := by omega
  have j0 : (0 : Int) ≤ (bp : Int) := by omega
  obtain ⟨y0, z0, hok0, hlay0⟩ := peek h1 [] (92 :: 110 :: r) (by simpa using hS.here.fro) (by simpa using hS.here.ch) (by simp) (by simp; omega)
  obtain ⟨x0, HX0⟩ : ∃ x0, Hid (fb (92 :: 110 :: r) = x0) := ⟨_, rfl⟩
  rw [HX0.out] at hok0 hlay0
  have hx0 := hlay0.hx
  have hj0 : (bp : Int) + 0 < (bl : Int) := by have := hlay0.hi; simp at this; omega
  simp only [List.length_nil, List.length_cons, Nat.zero_add, Nat.add_zero] at hlay0 hx0
  have hj0' : (bp : Int) < (bl : Int) := by omega
  obtain rfl : x0 = 92 := HX0.out.symm.trans (fb_small (by omega))
  obtain ⟨y1, z1, hok1, hlay1⟩ := peek h1 [92] (110 :: r) (by simpa using hS.here.fro) (by simpa using hS.here.ch) (by simp) (by simp; omega)
  obtain ⟨x1, HX1⟩ : ∃ x1, Hid (fb (110 :: r) = x1) := ⟨_, rfl⟩
  rw [HX1.out] at hok1 hlay1
  have hx1 := hlay1.hx
  have hj1 : (bp : Int) + 1 < (bl : Int) := by have := hlay1.hi; simp at this; omega
  simp only [List.length_nil, List.length_cons, Nat.zero_add, Nat.add_zero] at hlay1 hx1
  obtain rfl : x1 = 110 := HX1.out.symm.trans (fb_small (by omega))
  have HB := Lib.hid hb
  have HFAR := Lib.hid hC.far
  have HLOW := Lib.hid hC.low
  have HKK := Lib.hid hK
  obtain ⟨wq, hwq⟩ : ∃ wq : Nat → World, ∀ n, wq n = w.drewN n := ⟨fun n => w.drewN n, fun _ => rfl⟩
  rw [lit717 a hF.size hF.defers, hF.s0, hF.s1, hF.s2, hF.s7, hF.s8, hF.s9, hF.s10, hF.s11, hF.s12, h13]
  have HS0 := Lib.hid hS
  clear h1 h24 h25 h26 h19 ho hC hF hS hK hok0 hlay0 hok1 hlay1 hb h13
  conv => arg 2; whnf
  try simp only [List.append]
  go_wp2_with fail
  go_quiet (fail)
  obtain ⟨wd, hwd⟩ : ∃ wd : World, wd = w.drewN nq := ⟨_, rfl⟩
  have HS : Hid (St k p lo L0 w1 c u col (92 :: 110 :: r) s lb tb ws sv lbv tbv wsv wd) := by rw [hwd]; exact HS0.out.drewN nq
  rw [← hwd]
  clear hwd HS0 hwq c16 f16 c17 f17 c18 f18 c26 f26 hx0 hx1
  go_wp2_with ((at_builtin; refine wpList_add rfl (.tmp 318) (.tmp 319) rfl lo _ s [10] rfl (World.ownsRow.alloc HS.out.r8 _) ⟨wd.heap.size, 0, none⟩ 1 1 rfl rfl (fun j hj => by rw [Addr.add_lit]; obtain rfl : j = 0 := Nat.lt_one_iff.1 hj; simp [World.cell?_alloc_new]) (by have := HS.out.sz; have := HS.out.here.fro.2; have := HS.out.here.len; simp only [List.length_cons, List.length_nil]; omega) (Nat.le_trans (Nat.le_trans (Nat.le_of_eq HLOW.out.symm) HS.out.kp.size) (by simp)) ?_))
  intro v0 w0' hrow' hgrow hgr
  have HS0 := Lib.hid (HS.out.add8 HFAR.out HLOW.out (below_alloc _ _) hrow' hgrow hgr (by have := HB.out; simp only [List.length_append, List.length_cons, List.length_nil]; omega))
  clear hrow' hgrow hgr HS
  go_wp2_with fail
  exact HKK.out _ _ _ ⟨rfl, rfl, rfl, rfl, rfl, rfl, rfl, rfl, rfl, rfl, rfl⟩ HS0.out rfl
set_option maxHeartbeats 32000000 in
set_option maxRecDepth 100000 in
theorem sw_118 {k : Kn} {p t mk lo : Nat} {s0 s1 s2 : Int} {L0 : List Value} {w1 : World} (hC : Cx k p mk lo s0 s1 s2 L0 w1) {sg : Bool} {c u col : Nat} {r s lb tb ws : List Int} {sv lbv tbv wsv : Value} {lbr : Bool} {a : Act} {w : World} {K : Act → World → Prop} {Q : Exit → Act → World → Prop} (hF : Fm sg p t mk sv lbv tbv wsv lbr a) (hS : St k p lo L0 w1 c u col (92 :: 118 :: r) s lb tb ws sv lbv tbv wsv w) (hu : 2 ≤ u) (h13 : gt a 13 = .int .i64 0) (hb : s.length + lb.length + tb.length + ws.length + 4 ≤ 4 * c)
    (hK : ∀ a' w' v', Fm sg p t mk v' lbv tbv wsv lbr a' → St k p lo L0 w1 c u col (92 :: 118 :: r) (s ++ [11]) lb tb ws v' lbv tbv wsv w' → gt a' 13 = .int .i64 0 → K a' w') :
    cSw.wp Tryd.prog (Exit.then K Q) a w := by
  obtain ⟨bp, bl, mi, ml, z, L, h1, h24, h25, h26, h19, m1, m2, m3, ho⟩ := hS.here.ex
  have hsm := h1.small
  obtain ⟨c16, f16⟩ := at_ h1.pb 16 h1.at16
  obtain ⟨c17, f17⟩ := at_ h1.pb 17 h1.at17
  obtain ⟨c18, f18⟩ := at_ h1.pb 18 h1.at18
  obtain ⟨c26, f26⟩ := at_ h1.pb 26 h26
  have j2 : (bl : Int) ≤ 541 := by omega
  have j0 : (0 : Int) ≤ (bp : Int) := by omega
  obtain ⟨y0, z0, hok0, hlay0⟩ := peek h1 [] (92 :: 118 :: r) (by simpa using hS.here.fro) (by simpa using hS.here.ch) (by simp) (by simp; omega)
  obtain ⟨x0, HX0⟩ : ∃ x0, Hid (fb (92 :: 118 :: r) = x0) := ⟨_, rfl⟩
  rw [HX0.out] at hok0 hlay0
  have hx0 := hlay0.hx
  have hj0 : (bp : Int) + 0 < (bl : Int) := by have := hlay0.hi; simp at this; omega
  simp only [List.length_nil, List.length_cons, Nat.zero_add, Nat.add_zero] at hlay0 hx0
  have hj0' : (bp : Int) < (bl : Int) := by omega
  obtain rfl : x0 = 92 := HX0.out.symm.trans (fb_small (by omega))
  obtain ⟨y1, z1, hok1, hlay1⟩ := peek h1 [92] (118 :: r) (by simpa using hS.here.fro) (by simpa using hS.here.ch) (by simp) (by simp; omega)
  obtain ⟨x1, HX1⟩ : ∃ x1, Hid (fb (118 :: r) = x1) := ⟨_, rfl⟩
  rw [HX1.out] at hok1 hlay1
  have hx1 := hlay1.hx
  have hj1 : (bp : Int) + 1 < (bl : Int) := by have := hlay1.hi; simp at this; omega
  simp only [List.length_nil, List.length_cons, Nat.zero_add, Nat.add_zero] at hlay1 hx1
  obtain rfl : x1 = 118 := HX1.out.symm.trans (fb_small (by omega))
  have HB := Lib.hid hb
  have HFAR := Lib.hid hC.far
  have HLOW := Lib.hid hC.low
  have HKK := Lib.hid hK
  obtain ⟨wq, hwq⟩ : ∃ wq : Nat → World, ∀ n, wq n = w.drewN n := ⟨fun n => w.drewN n, fun _ => rfl⟩
  rw [lit717 a hF.size hF.defers, hF.s0, hF.s1, hF.s2, hF.s7, hF.s8, hF.s9, hF.s10, hF.s11, hF.s12, h13]
  have HS0 := Lib.hid hS
  clear h1 h24 h25 h26 h19 ho hC hF hS hK hok0 hlay0 hok1 hlay1 hb h13
  conv => arg 2; whnf
  try simp only [List.append]
  go_wp2_with fail
  go_quiet (fail)
  obtain ⟨wd, hwd⟩ : ∃ wd : World, wd = w.drewN nq := ⟨_, rfl⟩
  have HS : Hid (St k p lo L0 w1 c u col (92 :: 118 :: r) s lb tb ws sv lbv tbv wsv wd) := by rw [hwd]; exact HS0.out.drewN nq
  rw [← hwd]
  clear hwd HS0 hwq c16 f16 c17 f17 c18 f18 c26 f26 hx0 hx1
  go_wp2_with ((at_builtin; refine wpList_add rfl (.tmp 323) (.tmp 324) rfl lo _ s [11] rfl (World.ownsRow.alloc HS.out.r8 _) ⟨wd.heap.size, 0, none⟩ 1 1 rfl rfl (fun j hj => by rw [Addr.add_lit]; obtain rfl : j = 0 := Nat.lt_one_iff.1 hj; simp [World.cell?_alloc_new]) (by have := HS.out.sz; have := HS.out.here.fro.2; have := HS.out.here.len; simp only [List.length_cons, List.length_nil]; omega) (Nat.le_trans (Nat.le_trans (Nat.le_of_eq HLOW.out.symm) HS.out.kp.size) (by simp)) ?_))
  intro v0 w0' hrow' hgrow hgr
  have HS0 := Lib.hid (HS.out.add8 HFAR.out HLOW.out (below_alloc _ _) hrow' hgrow hgr (by have := HB.out; simp only [List.length_append, List.length_cons, List.length_nil]; omega))
  clear hrow' hgrow hgr HS
  go_wp2_with fail
  exact HKK.out _ _ _ ⟨rfl, rfl, rfl, rfl, rfl, rfl, rfl, rfl, rfl, rfl, rfl⟩ HS0.out rfl
set_option maxHeartbeats 32000000 in
set_option maxRecDepth 100000 in
theorem sw_102 {k : Kn} {p t mk lo : Nat} {s0 s1 s2 : Int} {L0 : List Value} {w1 : World} (hC : Cx k p mk lo s0 s1 s2 L0 w1) {sg : Bool} {c u col : Nat} {r s lb tb ws : List Int} {sv lbv tbv wsv : Value} {lbr : Bool} {a : Act} {w : World} {K : Act → World → Prop} {Q : Exit → Act → World → Prop} (hF : Fm sg p t mk sv lbv tbv wsv lbr a) (hS : St k p lo L0 w1 c u col (92 :: 102 :: r) s lb tb ws sv lbv tbv wsv w) (hu : 2 ≤ u) (h13 : gt a 13 = .int .i64 0) (hb : s.length + lb.length + tb.length + ws.length + 4 ≤ 4 * c)
    (hK : ∀ a' w' v', Fm sg p t mk v' lbv tbv wsv lbr a' → St k p lo L0 w1 c u col (92 :: 102 :: r) (s ++ [12]) lb tb ws v' lbv tbv wsv w' → gt a' 13 = .int .i64 0 → K a' w') :
    cSw.wp Tryd.prog (Exit.then K Q) a w := by
  obtain ⟨bp, bl, mi, ml, z, L, h1, h24, h25, h26, h19, m1, m2, m3, ho⟩ := hS.here.ex
  have hsm := h1.small
  obtain ⟨c16, f16⟩ := at_ h1.pb 16 h1.at16
  obtain ⟨c17, f17⟩ := at_ h1.pb 17 h1.at17
  obtain ⟨c18, f18⟩ := at_ h1.pb 18 h1.at18
  obtain ⟨c26, f26⟩ := at_ h1.pb 26 h26
  have j2 : (bl : Int) ≤ 541 := by omega
  have j0 : (0 : Int) ≤ (bp : Int) := by omega
  obtain ⟨y0, z0, hok0, hlay0⟩ := peek h1 [] (92 :: 102 :: r) (by simpa using hS.here.fro) (by simpa using hS.here.ch) (by simp) (by simp; omega)
  obtain ⟨x0, HX0⟩ : ∃ x0, Hid (fb (92 :: 102 :: r) = x0) := ⟨_, rfl⟩
  rw [HX0.out] at hok0 hlay0
  have hx0 := hlay0.hx
  have hj0 : (bp : Int) + 0 < (bl : Int) := by have := hlay0.hi; simp at this; omega
  simp only [List.length_nil, List.length_cons, Nat.zero_add, Nat.add_zero] at hlay0 hx0
  have hj0' : (bp : Int) < (bl : Int) := by omega
  obtain rfl : x0 = 92 := HX0.out.symm.trans (fb_small (by omega))
  obtain ⟨y1, z1, hok1, hlay1⟩ := peek h1 [92] (102 :: r) (by simpa using hS.here.fro) (by simpa using hS.here.ch) (by simp) (by simp; omega)
  obtain ⟨x1, HX1⟩ : ∃ x1, Hid (fb (102 :: r) = x1) := ⟨_, rfl⟩
  rw [HX1.out] at hok1 hlay1
  have hx1 := hlay1.hx
  have hj1 : (bp : Int) + 1 < (bl : Int) := by have := hlay1.hi; simp at this; omega
  simp only [List.length_nil, List.length_cons, Nat.zero_add, Nat.add_zero] at hlay1 hx1
  obtain rfl : x1 = 102 := HX1.out.symm.trans (fb_small (by omega))
  have HB := Lib.hid hb
  have HFAR := Lib.hid hC.far
  have HLOW := Lib.hid hC.low
  have HKK := Lib.hid hK
  obtain ⟨wq, hwq⟩ : ∃ wq : Nat → World, ∀ n, wq n = w.drewN n := ⟨fun n => w.drewN n, fun _ => rfl⟩
  rw [lit717 a hF.size hF.defers, hF.s0, hF.s1, hF.s2, hF.s7, hF.s8, hF.s9, hF.s10, hF.s11, hF.s12, h13]
  have HS0 := Lib.hid hS
  clear h1 h24 h25 h26 h19 ho hC hF hS hK hok0 hlay0 hok1 hlay1 hb h13
  conv => arg 2; whnf
  try simp only [List.append]
  go_wp2_with fail
  go_quiet (fail)
  obtain ⟨wd, hwd⟩ : ∃ wd : World, wd = w.drewN nq := ⟨_, rfl⟩
  have HS : Hid (St k p lo L0 w1 c u col (92 :: 102 :: r) s lb tb ws sv lbv tbv wsv wd) := by rw [hwd]; exact HS0.out.drewN nq
  rw [← hwd]
  clear hwd HS0 hwq c16 f16 c17 f17 c18 f18 c26 f26 hx0 hx1
  go_wp2_with ((at_builtin; refine wpList_add rfl (.tmp 328) (.tmp 329) rfl lo _ s [12] rfl (World.ownsRow.alloc HS.out.r8 _) ⟨wd.heap.size, 0, none⟩ 1 1 rfl rfl (fun j hj => by rw [Addr.add_lit]; obtain rfl : j = 0 := Nat.lt_one_iff.1 hj; simp [World.cell?_alloc_new]) (by have := HS.out.sz; have := HS.out.here.fro.2; have := HS.out.here.len; simp only [List.length_cons, List.length_nil]; omega) (Nat.le_trans (Nat.le_trans (Nat.le_of_eq HLOW.out.symm) HS.out.kp.size) (by simp)) ?_))
  intro v0 w0' hrow' hgrow hgr
  have HS0 := Lib.hid (HS.out.add8 HFAR.out HLOW.out (below_alloc _ _) hrow' hgrow hgr (by have := HB.out; simp only [List.length_append, List.length_cons, List.length_nil]; omega))
  clear hrow' hgrow hgr HS
  go_wp2_with fail
  exact HKK.out _ _ _ ⟨rfl, rfl, rfl, rfl, rfl, rfl, rfl, rfl, rfl, rfl, rfl⟩ HS0.out rfl
set_option maxHeartbeats 32000000 in
set_option maxRecDepth 100000 in
theorem sw_114 {k : Kn} {p t mk lo : Nat} {s0 s1 s2 : Int} {L0 : List Value} {w1 : World} (hC : Cx k p mk lo s0 s1 s2 L0 w1) {sg : Bool} {c u col : Nat} {r s lb tb ws : List Int} {sv lbv tbv wsv : Value} {lbr : Bool} {a : Act} {w : World} {K : Act → World → Prop} {Q : Exit → Act → World → Prop} (hF : Fm sg p t mk sv lbv tbv wsv lbr a) (hS : St k p lo L0 w1 c u col (92 :: 114 :: r) s lb tb ws sv lbv tbv wsv w) (hu : 2 ≤ u) (h13 : gt a 13 = .int .i64 0) (hb : s.length + lb.length + tb.length + ws.length + 4 ≤ 4 * c)
    (hK : ∀ a' w' v', Fm sg p t mk v' lbv tbv wsv lbr a' → St k p lo L0 w1 c u col (92 :: 114 :: r) (s ++ [13]) lb tb ws v' lbv tbv wsv w' → gt a' 13 = .int .i64 0 → K a' w') :
    cSw.wp Tryd.prog (Exit.then K Q) a w := by
  obtain ⟨bp, bl, mi, ml, z, L, h1, h24, h25, h26, h19, m1, m2, m3, ho⟩ := hS.here.ex
  have hsm := h1.small
  obtain ⟨c16, f16⟩ := at_ h1.pb 16 h1.at16
  obtain ⟨c17, f17⟩ := at_ h1.pb 17 h1.at17
  obtain ⟨c18, f18⟩ := at_ h1.pb 18 h1.at18
  obtain ⟨c26, f26⟩ := at_ h1.pb 26 h26
  have j2 : (bl : Int) ≤ 541 := by omega
  have j0 : (0 : Int) ≤ (bp : Int) := by omega
  obtain ⟨y0, z0, hok0, hlay0⟩ := peek h1 [] (92 :: 114 :: r) (by simpa using hS.here.fro) (by simpa using hS.here.ch) (by simp) (by simp; omega)
  obtain ⟨x0, HX0⟩ : ∃ x0, Hid (fb (92 :: 114 :: r) = x0) := ⟨_, rfl⟩
  rw [HX0.out] at hok0 hlay0
  have hx0 := hlay0.hx
  have hj0 : (bp : Int) + 0 < (bl : Int) := by have := hlay0.hi; simp at this; omega
  simp only [List.length_nil, List.length_cons, Nat.zero_add, Nat.add_zero] at hlay0 hx0
  have hj0' : (bp : Int) < (bl : Int) := by omega
  obtain rfl : x0 = 92 := HX0.out.symm.trans (fb_small (by omega))
  obtain ⟨y1, z1, hok1, hlay1⟩ := peek h1 [92] (114 :: r) (by simpa using hS.here.fro) (by simpa using hS.here.ch) (by simp) (by simp; omega)
  obtain ⟨x1, HX1⟩ : ∃ x1, Hid (fb (114 :: r) = x1) := ⟨_, rfl⟩
  rw [HX1.out] at hok1 hlay1
  have hx1 := hlay1.hx
  have hj1 : (bp : Int) + 1 < (bl : Int) := by have := hlay1.hi; simp at this; omega
  simp only [List.length_nil, List.length_cons, Nat.zero_add, Nat.add_zero] at hlay1 hx1
  obtain rfl : x1 = 114 := HX1.out.symm.trans (fb_small (by omega))
  have HB := Lib.hid hb
  have HFAR := Lib.hid hC.far
  have HLOW := Lib.hid hC.low
  have HKK := Lib.hid hK
  obtain ⟨wq, hwq⟩ : ∃ wq : Nat → World, ∀ n, wq n = w.drewN n := ⟨fun n => w.drewN n, fun _ => rfl⟩
  rw [lit717 a hF.size hF.defers, hF.s0, hF.s1, hF.s2, hF.s7, hF.s8, hF.s9, hF.s10, hF.s11, hF.s12, h13]
  have HS0 := Lib.hid hS
  clear h1 h24 h25 h26 h19 ho hC hF hS hK hok0 hlay0 hok1 hlay1 hb h13
  conv => arg 2; whnf
  try simp only [List.append]
  go_wp2_with fail
  go_quiet (fail)
  obtain ⟨wd, hwd⟩ : ∃ wd : World, wd = w.drewN nq := ⟨_, rfl⟩
  have HS : Hid (St k p lo L0 w1 c u col (92 :: 114 :: r) s lb tb ws sv lbv tbv wsv wd) := by rw [hwd]; exact HS0.out.drewN nq
  rw [← hwd]
  clear hwd HS0 hwq c16 f16 c17 f17 c18 f18 c26 f26 hx0 hx1
  go_wp2_with ((at_builtin; refine wpList_add rfl (.tmp 333) (.tmp 334) rfl lo _ s [13] rfl (World.ownsRow.alloc HS.out.r8 _) ⟨wd.heap.size, 0, none⟩ 1 1 rfl rfl (fun j hj => by rw [Addr.add_lit]; obtain rfl : j = 0 := Nat.lt_one_iff.1 hj; simp [World.cell?_alloc_new]) (by have := HS.out.sz; have := HS.out.here.fro.2; have := HS.out.here.len; simp only [List.length_cons, List.length_nil]; omega) (Nat.le_trans (Nat.le_trans (Nat.le_of_eq HLOW.out.symm) HS.out.kp.size) (by simp)) ?_))
  intro v0 w0' hrow' hgrow hgr
  have HS0 := Lib.hid (HS.out.add8 HFAR.out HLOW.out (below_alloc _ _) hrow' hgrow hgr (by have := HB.out; simp only [List.length_append, List.length_cons, List.length_nil]; omega))
  clear hrow' hgrow hgr HS
  go_wp2_with fail
  exact HKK.out _ _ _ ⟨rfl, rfl, rfl, rfl, rfl, rfl, rfl, rfl, rfl, rfl, rfl⟩ HS0.out rfl
end Go.Proofs.YtocbbekciphjgaaDoor.Qd
