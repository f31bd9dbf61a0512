/- QdU: parts of the proof, one behind another. -/
import Derived.Test.YtocbbekciphjgaaDoorMz24
/- QdU -/
/- A character's bytes are appended (yaml_parser_scan_flow_scalar): the walks. Printed by genQdJ.py. -/
namespace Go.Proofs.YtocbbekciphjgaaDoor.Qd
open Go.RowKit Go.Proofs.YtocbbekciphjgaaDoor.Rdp Go.Proofs.YtocbbekciphjgaaDoor.Pa Go.Proofs.YtocbbekciphjgaaDoor.Sc
set_option linter.unusedVariables false
set_option linter.unusedSimpArgs false
theorem b63 (v : Int) (h0 : 0 ≤ v) (h1 : v < 9223372036854775808) : Go.bits .and .i64 v 63 = v % 64 := bits_mask .i64 63 (by decide) (fun n h0 h1 => by rw [IntKind.wrap_i64]; omega) 6 (by decide) v h0 h1
theorem w63 (x : Int) (h0 : 0 ≤ x) (h1 : x < 9223372036854775808) : wrap64 (128 + Go.bits .and .i64 x 63) % 256 = 128 + x % 64 := by
  rw [b63 x h0 h1, IntWalk.wrap64_in _ (by omega)]
  omega
set_option maxHeartbeats 32000000 in
set_option maxRecDepth 100000 in
theorem s94_1 {k : Kn} {p t mk lo : Nat} {s0 s1 s2 : Int} {L0 : List Value} {w1 : World} (hC : Cx k p mk lo s0 s1 s2 L0 w1) {sg : Bool} {c u col : Nat} {rest s lb tb ws : List Int} {sv lbv tbv wsv : Value} {lbr : Bool} {a : Act} {w : World} {K : Act → World → Prop} {Q : Exit → Act → World → Prop} (hF : Fm sg p t mk sv lbv tbv wsv lbr a) {n : Nat} {v : Int} (hS : St k p lo L0 w1 c u col rest s lb tb ws sv lbv tbv wsv w) (hv0 : 0 ≤ v) (hv : v ≤ 127) (hb : s.length + lb.length + tb.length + ws.length + 4 ≤ 4 * c) (h13 : gt a 13 = .int .i64 (n : Nat)) (h14 : gt a 14 = .int .i64 v)
    (hK : ∀ a' w' v', Fm sg p t mk v' lbv tbv wsv lbr a' → St k p lo L0 w1 c u col rest (s ++ u8 v) lb tb ws v' lbv tbv wsv w' → gt a' 13 = .int .i64 (n : Nat) → K a' w') :
    c94.wp Tryd.prog (Exit.then K Q) a w := by
  have t127 : decide (v ≤ 127) = true := by simp; omega
  have g0 : 0 ≤ v := by omega
  have g1 : v ≤ 1114111 := by omega
  have HV := Lib.hid hv
  have HS := Lib.hid hS
  have HB := Lib.hid hb
  have HKK := Lib.hid hK
  have HFAR := Lib.hid hC.far
  have HLOW := Lib.hid hC.low
  rw [lit717 a hF.size hF.defers, hF.s0, hF.s1, hF.s2, hF.s7, hF.s8, hF.s9, hF.s10, hF.s11, hF.s12, h13, h14]
  clear hC hF hS hK hb h13 h14
  conv => arg 2; whnf
  try simp only [List.append]
  go_wp2_with ((at_builtin; refine wpList_add rfl (.tmp 472) (.tmp 475) rfl lo _ s [v] rfl (World.ownsRow.alloc HS.out.r8 _) ⟨w.heap.size, 0, none⟩ 1 1 rfl rfl (fun j hj => by rw [Addr.add_lit]; obtain rfl : j = 0 := Nat.lt_one_iff.1 hj; simp [World.cell?_alloc_new]) (by have := HS.out.sz; have := HS.out.here.fro.2; have := HS.out.here.len; simp only [List.length_cons, List.length_nil]; omega) (Nat.le_trans (Nat.le_trans (Nat.le_of_eq HLOW.out.symm) HS.out.kp.size) (by simp)) ?_))
  intro v0 w0' hrow' hgrow hgr
  have HS0 := Lib.hid (HS.out.add8 HFAR.out HLOW.out (below_alloc _ _) hrow' hgrow hgr (by have := HB.out; simp only [List.length_append, List.length_cons, List.length_nil]; omega))
  clear hrow' hgrow hgr HS
  go_wp2_with fail
  have hu8 : u8 v = [v] := by
    have hv := HV.out
    rw [u8_1 (by omega)]
  exact HKK.out _ _ _ ⟨rfl, rfl, rfl, rfl, rfl, rfl, rfl, rfl, rfl, rfl, rfl⟩ (by rw [hu8]; exact HS0.out) rfl
set_option maxHeartbeats 32000000 in
set_option maxRecDepth 100000 in
theorem s94_2 {k : Kn} {p t mk lo : Nat} {s0 s1 s2 : Int} {L0 : List Value} {w1 : World} (hC : Cx k p mk lo s0 s1 s2 L0 w1) {sg : Bool} {c u col : Nat} {rest s lb tb ws : List Int} {sv lbv tbv wsv : Value} {lbr : Bool} {a : Act} {w : World} {K : Act → World → Prop} {Q : Exit → Act → World → Prop} (hF : Fm sg p t mk sv lbv tbv wsv lbr a) {n : Nat} {v : Int} (hS : St k p lo L0 w1 c u col rest s lb tb ws sv lbv tbv wsv w) (hv0 : 0 ≤ v) (hv : 128 ≤ v ∧ v ≤ 2047) (hb : s.length + lb.length + tb.length + ws.length + 4 ≤ 4 * c) (h13 : gt a 13 = .int .i64 (n : Nat)) (h14 : gt a 14 = .int .i64 v)
    (hK : ∀ a' w' v', Fm sg p t mk v' lbv tbv wsv lbr a' → St k p lo L0 w1 c u col rest (s ++ u8 v) lb tb ws v' lbv tbv wsv w' → gt a' 13 = .int .i64 (n : Nat) → K a' w') :
    c94.wp Tryd.prog (Exit.then K Q) a w := by
  have t127 : decide (v ≤ 127) = false := by simp; omega
  have t2047 : decide (v ≤ 2047) = true := by simp; omega
  have g0 : 0 ≤ v := by omega
  have g1 : v ≤ 1114111 := by omega
  have HV := Lib.hid hv
  have HS := Lib.hid hS
  have HB := Lib.hid hb
  have HKK := Lib.hid hK
  have HFAR := Lib.hid hC.far
  have HLOW := Lib.hid hC.low
  rw [lit717 a hF.size hF.defers, hF.s0, hF.s1, hF.s2, hF.s7, hF.s8, hF.s9, hF.s10, hF.s11, hF.s12, h13, h14]
  clear hC hF hS hK hb h13 h14
  conv => arg 2; whnf
  try simp only [List.append]
  go_wp2_with ((at_builtin; refine wpList_add rfl (.tmp 479) (.tmp 484) rfl lo _ s [192 + v / 64] rfl (World.ownsRow.alloc HS.out.r8 _) ⟨w.heap.size, 0, none⟩ 1 1 rfl rfl (fun j hj => by rw [Addr.add_lit]; obtain rfl : j = 0 := Nat.lt_one_iff.1 hj; simp [World.cell?_alloc_new]) (by have := HS.out.sz; have := HS.out.here.fro.2; have := HS.out.here.len; simp only [List.length_cons, List.length_nil]; omega) (Nat.le_trans (Nat.le_trans (Nat.le_of_eq HLOW.out.symm) HS.out.kp.size) (by simp)) ?_))
  intro v0 w0' hrow' hgrow hgr
  have HS0 := Lib.hid (HS.out.add8 HFAR.out HLOW.out (below_alloc _ _) hrow' hgrow hgr (by have := HB.out; simp only [List.length_append, List.length_cons, List.length_nil]; omega))
  clear hrow' hgrow hgr HS
  go_wp2_with ((at_builtin; refine wpList_add rfl (.tmp 486) (.tmp 491) rfl lo _ (s ++ [192 + v / 64]) [wrap64 (128 + Go.bits .and .i64 v 63) % 256] rfl (World.ownsRow.alloc HS0.out.r8 _) ⟨w0'.heap.size, 0, none⟩ 1 1 rfl rfl (fun j hj => by rw [Addr.add_lit]; obtain rfl : j = 0 := Nat.lt_one_iff.1 hj; simp [World.cell?_alloc_new]) (by have := HS0.out.sz; have := HS0.out.here.fro.2; have := HS0.out.here.len; simp only [List.length_cons, List.length_nil]; omega) (Nat.le_trans (Nat.le_trans (Nat.le_of_eq HLOW.out.symm) HS0.out.kp.size) (by simp)) ?_))
  intro v1 w1' hrow' hgrow hgr
  have HS1 := Lib.hid (HS0.out.add8 HFAR.out HLOW.out (below_alloc _ _) hrow' hgrow hgr (by have := HB.out; simp only [List.length_append, List.length_cons, List.length_nil]; omega))
  clear hrow' hgrow hgr HS0
  go_wp2_with fail
  have hu8 : u8 v = [192 + v / 64, wrap64 (128 + Go.bits .and .i64 v 63) % 256] := by
    have hv := HV.out
    rw [u8_2 (by omega) (by omega)]
    rw [w63 v (by omega) (by omega)]
  exact HKK.out _ _ _ ⟨rfl, rfl, rfl, rfl, rfl, rfl, rfl, rfl, rfl, rfl, rfl⟩ (by rw [hu8]; exact HS1.out) rfl
set_option maxHeartbeats 32000000 in
set_option maxRecDepth 100000 in
theorem s94_3 {k : Kn} {p t mk lo : Nat} {s0 s1 s2 : Int} {L0 : List Value} {w1 : World} (hC : Cx k p mk lo s0 s1 s2 L0 w1) {sg : Bool} {c u col : Nat} {rest s lb tb ws : List Int} {sv lbv tbv wsv : Value} {lbr : Bool} {a : Act} {w : World} {K : Act → World → Prop} {Q : Exit → Act → World → Prop} (hF : Fm sg p t mk sv lbv tbv wsv lbr a) {n : Nat} {v : Int} (hS : St k p lo L0 w1 c u col rest s lb tb ws sv lbv tbv wsv w) (hv0 : 0 ≤ v) (hv : 2048 ≤ v ∧ v ≤ 65535) (hb : s.length + lb.length + tb.length + ws.length + 4 ≤ 4 * c) (h13 : gt a 13 = .int .i64 (n : Nat)) (h14 : gt a 14 = .int .i64 v)
    (hK : ∀ a' w' v', Fm sg p t mk v' lbv tbv wsv lbr a' → St k p lo L0 w1 c u col rest (s ++ u8 v) lb tb ws v' lbv tbv wsv w' → gt a' 13 = .int .i64 (n : Nat) → K a' w') :
    c94.wp Tryd.prog (Exit.then K Q) a w := by
  have t127 : decide (v ≤ 127) = false := by simp; omega
  have t2047 : decide (v ≤ 2047) = false := by simp; omega
  have t65535 : decide (v ≤ 65535) = true := by simp; omega
  have g0 : 0 ≤ v := by omega
  have g1 : v ≤ 1114111 := by omega
  have HV := Lib.hid hv
  have HS := Lib.hid hS
  have HB := Lib.hid hb
  have HKK := Lib.hid hK
  have HFAR := Lib.hid hC.far
  have HLOW := Lib.hid hC.low
  rw [lit717 a hF.size hF.defers, hF.s0, hF.s1, hF.s2, hF.s7, hF.s8, hF.s9, hF.s10, hF.s11, hF.s12, h13, h14]
  clear hC hF hS hK hb h13 h14
  conv => arg 2; whnf
  try simp only [List.append]
  go_wp2_with ((at_builtin; refine wpList_add rfl (.tmp 495) (.tmp 500) rfl lo _ s [224 + v / 4096] rfl (World.ownsRow.alloc HS.out.r8 _) ⟨w.heap.size, 0, none⟩ 1 1 rfl rfl (fun j hj => by rw [Addr.add_lit]; obtain rfl : j = 0 := Nat.lt_one_iff.1 hj; simp [World.cell?_alloc_new]) (by have := HS.out.sz; have := HS.out.here.fro.2; have := HS.out.here.len; simp only [List.length_cons, List.length_nil]; omega) (Nat.le_trans (Nat.le_trans (Nat.le_of_eq HLOW.out.symm) HS.out.kp.size) (by simp)) ?_))
  intro v0 w0' hrow' hgrow hgr
  have HS0 := Lib.hid (HS.out.add8 HFAR.out HLOW.out (below_alloc _ _) hrow' hgrow hgr (by have := HB.out; simp only [List.length_append, List.length_cons, List.length_nil]; omega))
  clear hrow' hgrow hgr HS
  go_wp2_with ((at_builtin; refine wpList_add rfl (.tmp 502) (.tmp 508) rfl lo _ (s ++ [224 + v / 4096]) [wrap64 (128 + Go.bits .and .i64 (v / 64) 63) % 256] rfl (World.ownsRow.alloc HS0.out.r8 _) ⟨w0'.heap.size, 0, none⟩ 1 1 rfl rfl (fun j hj => by rw [Addr.add_lit]; obtain rfl : j = 0 := Nat.lt_one_iff.1 hj; simp [World.cell?_alloc_new]) (by have := HS0.out.sz; have := HS0.out.here.fro.2; have := HS0.out.here.len; simp only [List.length_cons, List.length_nil]; omega) (Nat.le_trans (Nat.le_trans (Nat.le_of_eq HLOW.out.symm) HS0.out.kp.size) (by simp)) ?_))
  intro v1 w1' hrow' hgrow hgr
  have HS1 := Lib.hid (HS0.out.add8 HFAR.out HLOW.out (below_alloc _ _) hrow' hgrow hgr (by have := HB.out; simp only [List.length_append, List.length_cons, List.length_nil]; omega))
  clear hrow' hgrow hgr HS0
  go_wp2_with ((at_builtin; refine wpList_add rfl (.tmp 510) (.tmp 515) rfl lo _ (s ++ [224 + v / 4096, wrap64 (128 + Go.bits .and .i64 (v / 64) 63) % 256]) [wrap64 (128 + Go.bits .and .i64 v 63) % 256] rfl (World.ownsRow.alloc HS1.out.r8 _) ⟨w1'.heap.size, 0, none⟩ 1 1 rfl rfl (fun j hj => by rw [Addr.add_lit]; obtain rfl : j = 0 := Nat.lt_one_iff.1 hj; simp [World.cell?_alloc_new]) (by have := HS1.out.sz; have := HS1.out.here.fro.2; have := HS1.out.here.len; simp only [List.length_cons, List.length_nil]; omega) (Nat.le_trans (Nat.le_trans (Nat.le_of_eq HLOW.out.symm) HS1.out.kp.size) (by simp)) ?_))
  intro v2 w2' hrow' hgrow hgr
  have HS2 := Lib.hid (HS1.out.add8 HFAR.out HLOW.out (below_alloc _ _) hrow' hgrow hgr (by have := HB.out; simp only [List.length_append, List.length_cons, List.length_nil]; omega))
  clear hrow' hgrow hgr HS1
  go_wp2_with fail
  have hu8 : u8 v = [224 + v / 4096, wrap64 (128 + Go.bits .and .i64 (v / 64) 63) % 256, wrap64 (128 + Go.bits .and .i64 v 63) % 256] := by
    have hv := HV.out
    rw [u8_3 (by omega) (by omega)]
    rw [w63 v (by omega) (by omega), w63 (v / 64) (by omega) (by omega)]
  exact HKK.out _ _ _ ⟨rfl, rfl, rfl, rfl, rfl, rfl, rfl, rfl, rfl, rfl, rfl⟩ (by rw [hu8]; exact HS2.out) rfl
set_option maxHeartbeats 32000000 in
set_option maxRecDepth 100000 in
theorem s94_4 {k : Kn} {p t mk lo : Nat} {s0 s1 s2 : Int} {L0 : List Value} {w1 : World} (hC : Cx k p mk lo s0 s1 s2 L0 w1) {sg : Bool} {c u col : Nat} {rest s lb tb ws : List Int} {sv lbv tbv wsv : Value} {lbr : Bool} {a : Act} {w : World} {K : Act → World → Prop} {Q : Exit → Act → World → Prop} (hF : Fm sg p t mk sv lbv tbv wsv lbr a) {n : Nat} {v : Int} (hS : St k p lo L0 w1 c u col rest s lb tb ws sv lbv tbv wsv w) (hv0 : 0 ≤ v) (hv : 65536 ≤ v ∧ v ≤ 1114111) (hb : s.length + lb.length + tb.length + ws.length + 4 ≤ 4 * c) (h13 : gt a 13 = .int .i64 (n : Nat)) (h14 : gt a 14 = .int .i64 v)
    (hK : ∀ a' w' v', Fm sg p t mk v' lbv tbv wsv lbr a' → St k p lo L0 w1 c u col rest (s ++ u8 v) lb tb ws v' lbv tbv wsv w' → gt a' 13 = .int .i64 (n : Nat) → K a' w') :
    c94.wp Tryd.prog (Exit.then K Q) a w := by
  have t127 : decide (v ≤ 127) = false := by simp; omega
  have t2047 : decide (v ≤ 2047) = false := by simp; omega
  have t65535 : decide (v ≤ 65535) = false := by simp; omega
  have g0 : 0 ≤ v := by omega
  have g1 : v ≤ 1114111 := by omega
  have HV := Lib.hid hv
  have HS := Lib.hid hS
  have HB := Lib.hid hb
  have HKK := Lib.hid hK
  have HFAR := Lib.hid hC.far
  have HLOW := Lib.hid hC.low
  rw [lit717 a hF.size hF.defers, hF.s0, hF.s1, hF.s2, hF.s7, hF.s8, hF.s9, hF.s10, hF.s11, hF.s12, h13, h14]
  clear hC hF hS hK hb h13 h14
  conv => arg 2; whnf
  try simp only [List.append]
  go_wp2_with ((at_builtin; refine wpList_add rfl (.tmp 517) (.tmp 522) rfl lo _ s [240 + v / 262144] rfl (World.ownsRow.alloc HS.out.r8 _) ⟨w.heap.size, 0, none⟩ 1 1 rfl rfl (fun j hj => by rw [Addr.add_lit]; obtain rfl : j = 0 := Nat.lt_one_iff.1 hj; simp [World.cell?_alloc_new]) (by have := HS.out.sz; have := HS.out.here.fro.2; have := HS.out.here.len; simp only [List.length_cons, List.length_nil]; omega) (Nat.le_trans (Nat.le_trans (Nat.le_of_eq HLOW.out.symm) HS.out.kp.size) (by simp)) ?_))
  intro v0 w0' hrow' hgrow hgr
  have HS0 := Lib.hid (HS.out.add8 HFAR.out HLOW.out (below_alloc _ _) hrow' hgrow hgr (by have := HB.out; simp only [List.length_append, List.length_cons, List.length_nil]; omega))
  clear hrow' hgrow hgr HS
  go_wp2_with ((at_builtin; refine wpList_add rfl (.tmp 524) (.tmp 530) rfl lo _ (s ++ [240 + v / 262144]) [wrap64 (128 + Go.bits .and .i64 (v / 4096) 63) % 256] rfl (World.ownsRow.alloc HS0.out.r8 _) ⟨w0'.heap.size, 0, none⟩ 1 1 rfl rfl (fun j hj => by rw [Addr.add_lit]; obtain rfl : j = 0 := Nat.lt_one_iff.1 hj; simp [World.cell?_alloc_new]) (by have := HS0.out.sz; have := HS0.out.here.fro.2; have := HS0.out.here.len; simp only [List.length_cons, List.length_nil]; omega) (Nat.le_trans (Nat.le_trans (Nat.le_of_eq HLOW.out.symm) HS0.out.kp.size) (by simp)) ?_))
  intro v1 w1' hrow' hgrow hgr
  have HS1 := Lib.hid (HS0.out.add8 HFAR.out HLOW.out (below_alloc _ _) hrow' hgrow hgr (by have := HB.out; simp only [List.length_append, List.length_cons, List.length_nil]; omega))
  clear hrow' hgrow hgr HS0
  go_wp2_with ((at_builtin; refine wpList_add rfl (.tmp 532) (.tmp 538) rfl lo _ (s ++ [240 + v / 262144, wrap64 (128 + Go.bits .and .i64 (v / 4096) 63) % 256]) [wrap64 (128 + Go.bits .and .i64 (v / 64) 63) % 256] rfl (World.ownsRow.alloc HS1.out.r8 _) ⟨w1'.heap.size, 0, none⟩ 1 1 rfl rfl (fun j hj => by rw [Addr.add_lit]; obtain rfl : j = 0 := Nat.lt_one_iff.1 hj; simp [World.cell?_alloc_new]) (by have := HS1.out.sz; have := HS1.out.here.fro.2; have := HS1.out.here.len; simp only [List.length_cons, List.length_nil]; omega) (Nat.le_trans (Nat.le_trans (Nat.le_of_eq HLOW.out.symm) HS1.out.kp.size) (by simp)) ?_))
  intro v2 w2' hrow' hgrow hgr
  have HS2 := Lib.hid (HS1.out.add8 HFAR.out HLOW.out (below_alloc _ _) hrow' hgrow hgr (by have := HB.out; simp only [List.length_append, List.length_cons, List.length_nil]; omega))
  clear hrow' hgrow hgr HS1
  go_wp2_with ((at_builtin; refine wpList_add rfl (.tmp 540) (.tmp 545) rfl lo _ (s ++ [240 + v / 262144, wrap64 (128 + Go.bits .and .i64 (v / 4096) 63) % 256, wrap64 (128 + Go.bits .and .i64 (v / 64) 63) % 256]) [wrap64 (128 + Go.bits .and .i64 v 63) % 256] rfl (World.ownsRow.alloc HS2.out.r8 _) ⟨w2'.heap.size, 0, none⟩ 1 1 rfl rfl (fun j hj => by rw [Addr.add_lit]; obtain rfl : j = 0 := Nat.lt_one_iff.1 hj; simp [World.cell?_alloc_new]) (by have := HS2.out.sz; have := HS2.out.here.fro.2; have := HS2.out.here.len; simp only [List.length_cons, List.length_nil]; omega) (Nat.le_trans (Nat.le_trans (Nat.le_of_eq HLOW.out.symm) HS2.out.kp.size) (by simp)) ?_))
  intro v3 w3' hrow' hgrow hgr
  have HS3 := Lib.hid (HS2.out.add8 HFAR.out HLOW.out (below_alloc _ _) hrow' hgrow hgr (by have := HB.out; simp only [List.length_append, List.length_cons, List.length_nil]; omega))
  clear hrow' hgrow hgr HS2
  go_wp2_with fail
  have hu8 : u8 v = [240 + v / 262144, wrap64 (128 + Go.bits .and .i64 (v / 4096) 63) % 256, wrap64 (128 + Go.bits .and .i64 (v / 64) 63) % 256, wrap64 (128 + Go.bits .and .i64 v 63) % 256] := by
    have hv := HV.out
    rw [u8_4 (by omega)]
    rw [w63 v (by omega) (by omega), w63 (v / 64) (by omega) (by omega), w63 (v / 4096) (by omega) (by omega)]
  exact HKK.out _ _ _ ⟨rfl, rfl, rfl, rfl, rfl, rfl, rfl, rfl, rfl, rfl, rfl⟩ (by rw [hu8]; exact HS3.out) rfl
end Go.Proofs.YtocbbekciphjgaaDoor.Qd
