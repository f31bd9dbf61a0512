/- QdQ, QdR: parts of the proof, one behind another. -/
import Derived.Test.YtocbbekciphjgaaDoorMz26
/- QdQ -/
/- White and breaks are joined to the value (yaml_parser_scan_flow_scalar): the walks. Printed by genQdJ.py. -/
namespace Go.Proofs.YtocbbekciphjgaaDoor.Qd
open Go.RowKit Go.Proofs.YtocbbekciphjgaaDoor.Rdp Go.Proofs.YtocbbekciphjgaaDoor.Pa Go.Proofs.YtocbbekciphjgaaDoor.Sc
set_option linter.unusedVariables false
set_option linter.unusedSimpArgs false
noncomputable def c133 : Code := part [0] cJ
noncomputable def cJ1 : Code := part [1, 0] cJ
noncomputable def cJ2 : Code := part [1, 1] cJ
noncomputable def cJ3 : Code := part [0] cJ1
noncomputable def c140 : Code := part [1, 0] cJ1
noncomputable def c141 : Code := part [1, 1] cJ1
noncomputable def c134 : Code := part [0] cJ3
noncomputable def cJ4 : Code := part [1, 0] cJ3
noncomputable def cJ5 : Code := part [1, 1] cJ3
noncomputable def c135 : Code := part [0] cJ4
noncomputable def c136 : Code := part [1, 0] cJ4
noncomputable def c137 : Code := part [1, 1] cJ4
noncomputable def c138 : Code := part [0] cJ5
noncomputable def c139 : Code := part [1] cJ5
noncomputable def c142 : Code := part [0] cJ2
noncomputable def c143 : Code := part [1] cJ2
theorem cJ_eq : cJ = .seq c133 (.cond (.tmp 666) cJ1 cJ2) := by kernel_rfl
theorem cJ1_eq : cJ1 = .seq cJ3 (.seq c140 c141) := by kernel_rfl
theorem cJ3_eq : cJ3 = .seq c134 (.cond (.tmp 675) cJ4 cJ5) := by kernel_rfl
theorem cJ4_eq : cJ4 = .seq c135 (.cond (.tmp 678) c136 c137) := by kernel_rfl
theorem cJ5_eq : cJ5 = .seq c138 c139 := by kernel_rfl
theorem cJ2_eq : cJ2 = .seq c142 c143 := by kernel_rfl
set_option maxHeartbeats 32000000 in
set_option maxRecDepth 100000 in
theorem s133 {k : Kn} {p t mk lo : Nat} {s0 s1 s2 : Int} {L0 : List Value} {w1 : World} (hC : Cx k p mk lo s0 s1 s2 L0 w1) {sg : Bool} {sv lbv tbv wsv : Value} {lbr : Bool} {a : Act} {w : World} {K : Act → World → Prop} {Q : Exit → Act → World → Prop} (hF : Fm sg p t mk sv lbv tbv wsv lbr a)
    (hK : ∀ a', Fm sg p t mk sv lbv tbv wsv lbr a' → gt a' 666 = .bool lbr → K a' w) :
    c133.wp Tryd.prog (Exit.then K Q) a w := by
  have HKK := Lib.hid hK
  rw [lit717 a hF.size hF.defers, hF.s0, hF.s1, hF.s2, hF.s7, hF.s8, hF.s9, hF.s10, hF.s11, hF.s12]
  clear hC hF hK
  conv => arg 2; whnf
  go_wp2_with fail
  exact HKK.out _ ⟨rfl, rfl, rfl, rfl, rfl, rfl, rfl, rfl, rfl, rfl, rfl⟩ rfl
set_option maxHeartbeats 32000000 in
set_option maxRecDepth 100000 in
theorem s134n {k : Kn} {p t mk lo : Nat} {s0 s1 s2 : Int} {L0 : List Value} {w1 : World} (hC : Cx k p mk lo s0 s1 s2 L0 w1) {sg : Bool} {c u col : Nat} {rest s tb ws : List Int} {sv lbv tbv wsv : Value} {lbr : Bool} {a : Act} {w : World} {K : Act → World → Prop} {Q : Exit → Act → World → Prop} (hF : Fm sg p t mk sv lbv tbv wsv lbr a) (hS : St k p lo L0 w1 c u col rest s [] tb ws sv lbv tbv wsv w)
    (hK : ∀ a', Fm sg p t mk sv lbv tbv wsv lbr a' → gt a' 675 = .bool false → K a' w) :
    c134.wp Tryd.prog (Exit.then K Q) a w := by
  have HKK := Lib.hid hK
  have hrow := hS.r9
  obtain ⟨q1, ⟨q2, q3⟩ | ⟨g, cap, cur, q2, q3, q4, q5, q6, q7⟩⟩ := id hrow
  · subst q2
    rw [lit717 a hF.size hF.defers, hF.s0, hF.s1, hF.s2, hF.s7, hF.s8, hF.s9, hF.s10, hF.s11, hF.s12]
    clear hC hF hS hK hrow q1
    conv => arg 2; whnf
    go_wp2_with fail
    exact HKK.out _ ⟨rfl, rfl, rfl, rfl, rfl, rfl, rfl, rfl, rfl, rfl, rfl⟩ rfl
  · subst q2
    rw [lit717 a hF.size hF.defers, hF.s0, hF.s1, hF.s2, hF.s7, hF.s8, hF.s9, hF.s10, hF.s11, hF.s12]
    clear hC hF hS hK hrow q1 q4 q7
    conv => arg 2; whnf
    go_wp2_with fail
    exact HKK.out _ ⟨rfl, rfl, rfl, rfl, rfl, rfl, rfl, rfl, rfl, rfl, rfl⟩ rfl
set_option maxHeartbeats 32000000 in
set_option maxRecDepth 100000 in
theorem s134y {k : Kn} {p t mk lo : Nat} {s0 s1 s2 : Int} {L0 : List Value} {w1 : World} (hC : Cx k p mk lo s0 s1 s2 L0 w1) {sg : Bool} {c u col : Nat} {rest s tb ws : List Int} {sv lbv tbv wsv : Value} {lbr : Bool} {a : Act} {w : World} {K : Act → World → Prop} {Q : Exit → Act → World → Prop} (hF : Fm sg p t mk sv lbv tbv wsv lbr a) (hS : St k p lo L0 w1 c u col rest s [10] tb ws sv lbv tbv wsv w)
    (hK : ∀ a', Fm sg p t mk sv lbv tbv wsv lbr a' → gt a' 675 = .bool true → K a' w) :
    c134.wp Tryd.prog (Exit.then K Q) a w := by
  have HKK := Lib.hid hK
  have hrow := hS.r9
  obtain ⟨q1, ⟨q2, q3⟩ | ⟨g, cap, cur, q2, q3, q4, q5, q6, q7⟩⟩ := id hrow
  · cases q3
  · have hc0 := hrow.cell (g := g) (by rw [q2]; rfl) 0 (by simp)
    have hc1 : w.cell? ⟨g, 0, none⟩ = some (.int .u8 10) := hc0
    subst q2
    rw [lit717 a hF.size hF.defers, hF.s0, hF.s1, hF.s2, hF.s7, hF.s8, hF.s9, hF.s10, hF.s11, hF.s12]
    clear hC hF hS hK hrow q1 q4 q7 hc0
    conv => arg 2; whnf
    go_wp2_with fail
    exact HKK.out _ ⟨rfl, rfl, rfl, rfl, rfl, rfl, rfl, rfl, rfl, rfl, rfl⟩ rfl
set_option maxHeartbeats 32000000 in
set_option maxRecDepth 100000 in
theorem s135y {k : Kn} {p t mk lo : Nat} {s0 s1 s2 : Int} {L0 : List Value} {w1 : World} (hC : Cx k p mk lo s0 s1 s2 L0 w1) {sg : Bool} {c u col : Nat} {rest s lb tb ws : List Int} {sv lbv tbv wsv : Value} {lbr : Bool} {a : Act} {w : World} {K : Act → World → Prop} {Q : Exit → Act → World → Prop} (hF : Fm sg p t mk sv lbv tbv wsv lbr a) (hS : St k p lo L0 w1 c u col rest s lb tb ws sv lbv tbv wsv w) (htb : tb = [])
    (hK : ∀ a', Fm sg p t mk sv lbv tbv wsv lbr a' → gt a' 678 = .bool true → K a' w) :
    c135.wp Tryd.prog (Exit.then K Q) a w := by
  have hz : ((tb.length : Int) == 0) = true := (by rw [htb]; rfl)
  obtain ⟨ta, tc, rfl⟩ := hS.r10.slice
  have HKK := Lib.hid hK
  rw [lit717 a hF.size hF.defers, hF.s0, hF.s1, hF.s2, hF.s7, hF.s8, hF.s9, hF.s10, hF.s11, hF.s12]
  clear hC hF hS hK htb
  conv => arg 2; whnf
  go_wp2_with fail
  exact HKK.out _ ⟨rfl, rfl, rfl, rfl, rfl, rfl, rfl, rfl, rfl, rfl, rfl⟩ rfl
set_option maxHeartbeats 32000000 in
set_option maxRecDepth 100000 in
theorem s135n {k : Kn} {p t mk lo : Nat} {s0 s1 s2 : Int} {L0 : List Value} {w1 : World} (hC : Cx k p mk lo s0 s1 s2 L0 w1) {sg : Bool} {c u col : Nat} {rest s lb tb ws : List Int} {sv lbv tbv wsv : Value} {lbr : Bool} {a : Act} {w : World} {K : Act → World → Prop} {Q : Exit → Act → World → Prop} (hF : Fm sg p t mk sv lbv tbv wsv lbr a) (hS : St k p lo L0 w1 c u col rest s lb tb ws sv lbv tbv wsv w) (htb : tb ≠ [])
    (hK : ∀ a', Fm sg p t mk sv lbv tbv wsv lbr a' → gt a' 678 = .bool false → K a' w) :
    c135.wp Tryd.prog (Exit.then K Q) a w := by
  have hz : ((tb.length : Int) == 0) = false := (by rw [beq_eq_false_iff_ne]; intro h; exact htb (List.eq_nil_of_length_eq_zero (by omega)))
  obtain ⟨ta, tc, rfl⟩ := hS.r10.slice
  have HKK := Lib.hid hK
  rw [lit717 a hF.size hF.defers, hF.s0, hF.s1, hF.s2, hF.s7, hF.s8, hF.s9, hF.s10, hF.s11, hF.s12]
  clear hC hF hS hK htb
  conv => arg 2; whnf
  go_wp2_with fail
  exact HKK.out _ ⟨rfl, rfl, rfl, rfl, rfl, rfl, rfl, rfl, rfl, rfl, rfl⟩ rfl
set_option maxHeartbeats 32000000 in
set_option maxRecDepth 100000 in
theorem s136 {k : Kn} {p t mk lo : Nat} {s0 s1 s2 : Int} {L0 : List Value} {w1 : World} (hC : Cx k p mk lo s0 s1 s2 L0 w1) {sg : Bool} {c u col : Nat} {rest s lb tb ws : List Int} {sv lbv tbv wsv : Value} {lbr : Bool} {a : Act} {w : World} {K : Act → World → Prop} {Q : Exit → Act → World → Prop} (hF : Fm sg p t mk sv lbv tbv wsv lbr a) (hS : St k p lo L0 w1 c u col rest s lb tb ws sv lbv tbv wsv w) (hb : s.length + lb.length + tb.length + ws.length + 1 ≤ 4 * c)
    (hK : ∀ a' w' v', Fm sg p t mk v' lbv tbv wsv lbr a' → St k p lo L0 w1 c u col rest (s ++ [32]) lb tb ws v' lbv tbv wsv w' → K a' w') :
    c136.wp Tryd.prog (Exit.then K Q) a w := by
  have HS := Lib.hid hS
  have HB := Lib.hid hb
  have HKK := Lib.hid hK
  have HFAR := Lib.hid hC.far
  have HLOW := Lib.hid hC.low
  rw [lit717 a hF.size hF.defers, hF.s0, hF.s1, hF.s2, hF.s7, hF.s8, hF.s9, hF.s10, hF.s11, hF.s12]
  clear hC hF hS hK hb
  conv => arg 2; whnf
  go_wp2_with ((at_builtin; refine wpList_add rfl (.tmp 679) (.tmp 680) rfl lo _ s [32] rfl (World.ownsRow.alloc HS.out.r8 _) ⟨w.heap.size, 0, none⟩ 1 1 rfl rfl (fun j hj => by rw [Addr.add_lit]; obtain rfl : j = 0 := Nat.lt_one_iff.1 hj; simp [World.cell?_alloc_new]) (by have := HS.out.sz; have := HS.out.here.fro.2; have := HS.out.here.len; simp only [List.length_cons, List.length_nil]; omega) (Nat.le_trans (Nat.le_trans (Nat.le_of_eq HLOW.out.symm) HS.out.kp.size) (by simp)) ?_))
  intro v0 w0' hrow' hgrow hgr
  have HS0 := Lib.hid (HS.out.add8 HFAR.out HLOW.out (below_alloc _ _) hrow' hgrow hgr (by have := HB.out; simp only [List.length_append, List.length_cons, List.length_nil]; omega))
  clear hrow' hgrow hgr HS
  go_wp2_with fail
  exact HKK.out _ _ _ ⟨rfl, rfl, rfl, rfl, rfl, rfl, rfl, rfl, rfl, rfl, rfl⟩ HS0.out
set_option maxHeartbeats 32000000 in
set_option maxRecDepth 100000 in
theorem s137 {k : Kn} {p t mk lo : Nat} {s0 s1 s2 : Int} {L0 : List Value} {w1 : World} (hC : Cx k p mk lo s0 s1 s2 L0 w1) {sg : Bool} {c u col : Nat} {rest s lb tb ws : List Int} {sv lbv tbv wsv : Value} {lbr : Bool} {a : Act} {w : World} {K : Act → World → Prop} {Q : Exit → Act → World → Prop} (hF : Fm sg p t mk sv lbv tbv wsv lbr a) (hS : St k p lo L0 w1 c u col rest s lb tb ws sv lbv tbv wsv w) (hb : s.length + tb.length + lb.length + tb.length + ws.length ≤ 4 * c)
    (hK : ∀ a' w' v', Fm sg p t mk v' lbv tbv wsv lbr a' → St k p lo L0 w1 c u col rest (s ++ tb) lb tb ws v' lbv tbv wsv w' → K a' w') :
    c137.wp Tryd.prog (Exit.then K Q) a w := by
  have HS := Lib.hid hS
  have HB := Lib.hid hb
  have HKK := Lib.hid hK
  have HFAR := Lib.hid hC.far
  have HLOW := Lib.hid hC.low
  rw [lit717 a hF.size hF.defers, hF.s0, hF.s1, hF.s2, hF.s7, hF.s8, hF.s9, hF.s10, hF.s11, hF.s12]
  clear hC hF hS hK hb
  conv => arg 2; whnf
  go_wp2_with ((at_builtin; refine wpList_join rfl (.tmp 682) (.tmp 683) rfl lo lo _ _ s tb rfl HS.out.r8 rfl HS.out.r10 (by have := HB.out; have := HS.out.here.fro.2; have := HS.out.here.len; omega) (Nat.le_trans (Nat.le_of_eq HLOW.out.symm) HS.out.kp.size) ?_))
  intro v' w' hrow' hgrow hgr
  have HS2 := Lib.hid (HS.out.add8 HFAR.out HLOW.out (Below.refl _ _) hrow' hgrow hgr (by have := HB.out; simp only [List.length_append]; omega))
  clear hrow' hgrow hgr HS
  go_wp2_with fail
  exact HKK.out _ _ _ ⟨rfl, rfl, rfl, rfl, rfl, rfl, rfl, rfl, rfl, rfl, rfl⟩ HS2.out
set_option maxHeartbeats 32000000 in
set_option maxRecDepth 100000 in
theorem s138 {k : Kn} {p t mk lo : Nat} {s0 s1 s2 : Int} {L0 : List Value} {w1 : World} (hC : Cx k p mk lo s0 s1 s2 L0 w1) {sg : Bool} {c u col : Nat} {rest s lb tb ws : List Int} {sv lbv tbv wsv : Value} {lbr : Bool} {a : Act} {w : World} {K : Act → World → Prop} {Q : Exit → Act → World → Prop} (hF : Fm sg p t mk sv lbv tbv wsv lbr a) (hS : St k p lo L0 w1 c u col rest s lb tb ws sv lbv tbv wsv w) (hb : s.length + lb.length + lb.length + tb.length + ws.length ≤ 4 * c)
    (hK : ∀ a' w' v', Fm sg p t mk v' lbv tbv wsv lbr a' → St k p lo L0 w1 c u col rest (s ++ lb) lb tb ws v' lbv tbv wsv w' → K a' w') :
    c138.wp Tryd.prog (Exit.then K Q) a w := by
  have HS := Lib.hid hS
  have HB := Lib.hid hb
  have HKK := Lib.hid hK
  have HFAR := Lib.hid hC.far
  have HLOW := Lib.hid hC.low
  rw [lit717 a hF.size hF.defers, hF.s0, hF.s1, hF.s2, hF.s7, hF.s8, hF.s9, hF.s10, hF.s11, hF.s12]
  clear hC hF hS hK hb
  conv => arg 2; whnf
  go_wp2_with ((at_builtin; refine wpList_join rfl (.tmp 685) (.tmp 686) rfl lo lo _ _ s lb rfl HS.out.r8 rfl HS.out.r9 (by have := HB.out; have := HS.out.here.fro.2; have := HS.out.here.len; omega) (Nat.le_trans (Nat.le_of_eq HLOW.out.symm) HS.out.kp.size) ?_))
  intro v' w' hrow' hgrow hgr
  have HS2 := Lib.hid (HS.out.add8 HFAR.out HLOW.out (Below.refl _ _) hrow' hgrow hgr (by have := HB.out; simp only [List.length_append]; omega))
  clear hrow' hgrow hgr HS
  go_wp2_with fail
  exact HKK.out _ _ _ ⟨rfl, rfl, rfl, rfl, rfl, rfl, rfl, rfl, rfl, rfl, rfl⟩ HS2.out
set_option maxHeartbeats 32000000 in
set_option maxRecDepth 100000 in
theorem s139 {k : Kn} {p t mk lo : Nat} {s0 s1 s2 : Int} {L0 : List Value} {w1 : World} (hC : Cx k p mk lo s0 s1 s2 L0 w1) {sg : Bool} {c u col : Nat} {rest s lb tb ws : List Int} {sv lbv tbv wsv : Value} {lbr : Bool} {a : Act} {w : World} {K : Act → World → Prop} {Q : Exit → Act → World → Prop} (hF : Fm sg p t mk sv lbv tbv wsv lbr a) (hS : St k p lo L0 w1 c u col rest s lb tb ws sv lbv tbv wsv w) (hb : s.length + tb.length + lb.length + tb.length + ws.length ≤ 4 * c)
    (hK : ∀ a' w' v', Fm sg p t mk v' lbv tbv wsv lbr a' → St k p lo L0 w1 c u col rest (s ++ tb) lb tb ws v' lbv tbv wsv w' → K a' w') :
    c139.wp Tryd.prog (Exit.then K Q) a w := by
  have HS := Lib.hid hS
  have HB := Lib.hid hb
  have HKK := Lib.hid hK
  have HFAR := Lib.hid hC.far
  have HLOW := Lib.hid hC.low
  rw [lit717 a hF.size hF.defers, hF.s0, hF.s1, hF.s2, hF.s7, hF.s8, hF.s9, hF.s10, hF.s11, hF.s12]
  clear hC hF hS hK hb
  conv => arg 2; whnf
  go_wp2_with ((at_builtin; refine wpList_join rfl (.tmp 688) (.tmp 689) rfl lo lo _ _ s tb rfl HS.out.r8 rfl HS.out.r10 (by have := HB.out; have := HS.out.here.fro.2; have := HS.out.here.len; omega) (Nat.le_trans (Nat.le_of_eq HLOW.out.symm) HS.out.kp.size) ?_))
  intro v' w' hrow' hgrow hgr
  have HS2 := Lib.hid (HS.out.add8 HFAR.out HLOW.out (Below.refl _ _) hrow' hgrow hgr (by have := HB.out; simp only [List.length_append]; omega))
  clear hrow' hgrow hgr HS
  go_wp2_with fail
  exact HKK.out _ _ _ ⟨rfl, rfl, rfl, rfl, rfl, rfl, rfl, rfl, rfl, rfl, rfl⟩ HS2.out
theorem St.cut10 {k : Kn} {p lo : Nat} {L0 : List Value} {w1 : World} {c u col : Nat} {rest s lb tb ws : List Int} {sv lbv tbv wsv v' : Value} {w : World} (h : St k p lo L0 w1 c u col rest s lb tb ws sv lbv tbv wsv w) (hrow : Row lo w v' []) (ho : ∀ g, v'.ownBlock = some g → tbv.ownBlock = some g) : St k p lo L0 w1 c u col rest s lb [] ws sv lbv v' wsv w :=
  ⟨h.here, h.kp, h.r8, h.r9, hrow, h.r11, h.a89, (fun g hg hg' => h.a80 g hg (ho g hg')), h.a81, (fun g hg hg' => h.a90 g hg (ho g hg')), h.a91, (fun g hg => h.a01 g (ho g hg)), by have := h.sz; simp only [List.length_nil]; omega⟩
set_option maxHeartbeats 32000000 in
set_option maxRecDepth 100000 in
theorem s140 {k : Kn} {p t mk lo : Nat} {s0 s1 s2 : Int} {L0 : List Value} {w1 : World} (hC : Cx k p mk lo s0 s1 s2 L0 w1) {sg : Bool} {c u col : Nat} {rest s lb tb ws : List Int} {sv lbv tbv wsv : Value} {lbr : Bool} {a : Act} {w : World} {K : Act → World → Prop} {Q : Exit → Act → World → Prop} (hF : Fm sg p t mk sv lbv tbv wsv lbr a) (hS : St k p lo L0 w1 c u col rest s lb tb ws sv lbv tbv wsv w)
    (hK : ∀ a' v', Fm sg p t mk sv lbv v' wsv lbr a' → St k p lo L0 w1 c u col rest s lb [] ws sv lbv v' wsv w → K a' w) :
    c140.wp Tryd.prog (Exit.then K Q) a w := by
  have HS := Lib.hid hS
  have HKK := Lib.hid hK
  have hrow := hS.r10
  obtain ⟨q1, ⟨q2, q3⟩ | ⟨g, cap, cur, q2, q3, q4, q5, q6, q7⟩⟩ := id hrow
  · subst q2
    rw [lit717 a hF.size hF.defers, hF.s0, hF.s1, hF.s2, hF.s7, hF.s8, hF.s9, hF.s10, hF.s11, hF.s12]
    clear hC hF hS hK hrow q1
    conv => arg 2; whnf
    go_wp2_with fail
    exact HKK.out _ _ ⟨rfl, rfl, rfl, rfl, rfl, rfl, rfl, rfl, rfl, rfl, rfl⟩ (HS.out.cut10 (Row.nil _ _) (fun g hg => by cases hg))
  · subst q2
    have q9 : (0 : Int) ≤ (cap : Int) := by omega
    rw [lit717 a hF.size hF.defers, hF.s0, hF.s1, hF.s2, hF.s7, hF.s8, hF.s9, hF.s10, hF.s11, hF.s12]
    clear hC hF hS hK hrow q1 q4 q7
    conv => arg 2; whnf
    go_wp2_with fail
    exact HKK.out _ _ ⟨rfl, rfl, rfl, rfl, rfl, rfl, rfl, rfl, rfl, rfl, rfl⟩ (HS.out.cut10 HS.out.r10.cut (fun g hg => hg))
theorem St.cut9 {k : Kn} {p lo : Nat} {L0 : List Value} {w1 : World} {c u col : Nat} {rest s lb tb ws : List Int} {sv lbv tbv wsv v' : Value} {w : World} (h : St k p lo L0 w1 c u col rest s lb tb ws sv lbv tbv wsv w) (hrow : Row lo w v' []) (ho : ∀ g, v'.ownBlock = some g → lbv.ownBlock = some g) : St k p lo L0 w1 c u col rest s [] tb ws sv v' tbv wsv w :=
  ⟨h.here, h.kp, h.r8, hrow, h.r10, h.r11, (fun g hg hg' => h.a89 g hg (ho g hg')), h.a80, h.a81, (fun g hg => h.a90 g (ho g hg)), (fun g hg => h.a91 g (ho g hg)), h.a01, by have := h.sz; simp only [List.length_nil]; omega⟩
set_option maxHeartbeats 32000000 in
set_option maxRecDepth 100000 in
theorem s141 {k : Kn} {p t mk lo : Nat} {s0 s1 s2 : Int} {L0 : List Value} {w1 : World} (hC : Cx k p mk lo s0 s1 s2 L0 w1) {sg : Bool} {c u col : Nat} {rest s lb tb ws : List Int} {sv lbv tbv wsv : Value} {lbr : Bool} {a : Act} {w : World} {K : Act → World → Prop} {Q : Exit → Act → World → Prop} (hF : Fm sg p t mk sv lbv tbv wsv lbr a) (hS : St k p lo L0 w1 c u col rest s lb tb ws sv lbv tbv wsv w)
    (hK : ∀ a' v', Fm sg p t mk sv v' tbv wsv lbr a' → St k p lo L0 w1 c u col rest s [] tb ws sv v' tbv wsv w → K a' w) :
    c141.wp Tryd.prog (Exit.then K Q) a w := by
  have HS := Lib.hid hS
  have HKK := Lib.hid hK
  have hrow := hS.r9
  obtain ⟨q1, ⟨q2, q3⟩ | ⟨g, cap, cur, q2, q3, q4, q5, q6, q7⟩⟩ := id hrow
  · subst q2
    rw [lit717 a hF.size hF.defers, hF.s0, hF.s1, hF.s2, hF.s7, hF.s8, hF.s9, hF.s10, hF.s11, hF.s12]
    clear hC hF hS hK hrow q1
    conv => arg 2; whnf
    go_wp2_with fail
    exact HKK.out _ _ ⟨rfl, rfl, rfl, rfl, rfl, rfl, rfl, rfl, rfl, rfl, rfl⟩ (HS.out.cut9 (Row.nil _ _) (fun g hg => by cases hg))
  · subst q2
    have q9 : (0 : Int) ≤ (cap : Int) := by omega
    rw [lit717 a hF.size hF.defers, hF.s0, hF.s1, hF.s2, hF.s7, hF.s8, hF.s9, hF.s10, hF.s11, hF.s12]
    clear hC hF hS hK hrow q1 q4 q7
    conv => arg 2; whnf
    go_wp2_with fail
    exact HKK.out _ _ ⟨rfl, rfl, rfl, rfl, rfl, rfl, rfl, rfl, rfl, rfl, rfl⟩ (HS.out.cut9 HS.out.r9.cut (fun g hg => hg))
set_option maxHeartbeats 32000000 in
set_option maxRecDepth 100000 in
theorem s142 {k : Kn} {p t mk lo : Nat} {s0 s1 s2 : Int} {L0 : List Value} {w1 : World} (hC : Cx k p mk lo s0 s1 s2 L0 w1) {sg : Bool} {c u col : Nat} {rest s lb tb ws : List Int} {sv lbv tbv wsv : Value} {lbr : Bool} {a : Act} {w : World} {K : Act → World → Prop} {Q : Exit → Act → World → Prop} (hF : Fm sg p t mk sv lbv tbv wsv lbr a) (hS : St k p lo L0 w1 c u col rest s lb tb ws sv lbv tbv wsv w) (hb : s.length + ws.length + lb.length + tb.length + ws.length ≤ 4 * c)
    (hK : ∀ a' w' v', Fm sg p t mk v' lbv tbv wsv lbr a' → St k p lo L0 w1 c u col rest (s ++ ws) lb tb ws v' lbv tbv wsv w' → K a' w') :
    c142.wp Tryd.prog (Exit.then K Q) a w := by
  have HS := Lib.hid hS
  have HB := Lib.hid hb
  have HKK := Lib.hid hK
  have HFAR := Lib.hid hC.far
  have HLOW := Lib.hid hC.low
  rw [lit717 a hF.size hF.defers, hF.s0, hF.s1, hF.s2, hF.s7, hF.s8, hF.s9, hF.s10, hF.s11, hF.s12]
  clear hC hF hS hK hb
  conv => arg 2; whnf
  go_wp2_with ((at_builtin; refine wpList_join rfl (.tmp 695) (.tmp 696) rfl lo lo _ _ s ws rfl HS.out.r8 rfl HS.out.r11 (by have := HB.out; have := HS.out.here.fro.2; have := HS.out.here.len; omega) (Nat.le_trans (Nat.le_of_eq HLOW.out.symm) HS.out.kp.size) ?_))
  intro v' w' hrow' hgrow hgr
  have HS2 := Lib.hid (HS.out.add8 HFAR.out HLOW.out (Below.refl _ _) hrow' hgrow hgr (by have := HB.out; simp only [List.length_append]; omega))
  clear hrow' hgrow hgr HS
  go_wp2_with fail
  exact HKK.out _ _ _ ⟨rfl, rfl, rfl, rfl, rfl, rfl, rfl, rfl, rfl, rfl, rfl⟩ HS2.out
theorem St.cut11' {k : Kn} {p lo : Nat} {L0 : List Value} {w1 : World} {c u col : Nat} {rest s lb tb ws : List Int} {sv lbv tbv wsv v' : Value} {w : World} (h : St k p lo L0 w1 c u col rest s lb tb ws sv lbv tbv wsv w) (hrow : Row lo w v' []) (ho : ∀ g, v'.ownBlock = some g → wsv.ownBlock = some g) : St k p lo L0 w1 c u col rest s lb tb [] sv lbv tbv v' w :=
  ⟨h.here, h.kp, h.r8, h.r9, h.r10, hrow, h.a89, h.a80, (fun g hg hg' => h.a81 g hg (ho g hg')), h.a90, (fun g hg hg' => h.a91 g hg (ho g hg')), (fun g hg hg' => h.a01 g hg (ho g hg')), by have := h.sz; simp only [List.length_nil]; omega⟩
set_option maxHeartbeats 32000000 in
set_option maxRecDepth 100000 in
theorem s143 {k : Kn} {p t mk lo : Nat} {s0 s1 s2 : Int} {L0 : List Value} {w1 : World} (hC : Cx k p mk lo s0 s1 s2 L0 w1) {sg : Bool} {c u col : Nat} {rest s lb tb ws : List Int} {sv lbv tbv wsv : Value} {lbr : Bool} {a : Act} {w : World} {K : Act → World → Prop} {Q : Exit → Act → World → Prop} (hF : Fm sg p t mk sv lbv tbv wsv lbr a) (hS : St k p lo L0 w1 c u col rest s lb tb ws sv lbv tbv wsv w)
    (hK : ∀ a' v', Fm sg p t mk sv lbv tbv v' lbr a' → St k p lo L0 w1 c u col rest s lb tb [] sv lbv tbv v' w → K a' w) :
    c143.wp Tryd.prog (Exit.then K Q) a w := by
  have HS := Lib.hid hS
  have HKK := Lib.hid hK
  have hrow := hS.r11
  obtain ⟨q1, ⟨q2, q3⟩ | ⟨g, cap, cur, q2, q3, q4, q5, q6, q7⟩⟩ := id hrow
  · subst q2
    rw [lit717 a hF.size hF.defers, hF.s0, hF.s1, hF.s2, hF.s7, hF.s8, hF.s9, hF.s10, hF.s11, hF.s12]
    clear hC hF hS hK hrow q1
    conv => arg 2; whnf
    go_wp2_with fail
    exact HKK.out _ _ ⟨rfl, rfl, rfl, rfl, rfl, rfl, rfl, rfl, rfl, rfl, rfl⟩ (HS.out.cut11' (Row.nil _ _) (fun g hg => by cases hg))
  · subst q2
    have q9 : (0 : Int) ≤ (cap : Int) := by omega
    rw [lit717 a hF.size hF.defers, hF.s0, hF.s1, hF.s2, hF.s7, hF.s8, hF.s9, hF.s10, hF.s11, hF.s12]
    clear hC hF hS hK hrow q1 q4 q7
    conv => arg 2; whnf
    go_wp2_with fail
    exact HKK.out _ _ ⟨rfl, rfl, rfl, rfl, rfl, rfl, rfl, rfl, rfl, rfl, rfl⟩ (HS.out.cut11' HS.out.r11.cut (fun g hg => hg))
theorem sJw {k : Kn} {p t mk lo : Nat} {s0 s1 s2 : Int} {L0 : List Value} {w1 : World} (hC : Cx k p mk lo s0 s1 s2 L0 w1) {sg : Bool} {m : Nat} {c u col : Nat} {rest s lb tb ws : List Int} {sv lbv tbv wsv : Value}  {a : Act} {w : World} {K : Act → World → Prop} {Q : Exit → Act → World → Prop} (hF : Fm sg p t mk sv lbv tbv wsv false a) (hS : St k p lo L0 w1 c u col rest s [] [] ws sv lbv tbv wsv w) (hb : s.length + 2 * ws.length ≤ 4 * c)
    (hK : ∀ a' w' v8 v9 v10 v11, Fm sg p t mk v8 v9 v10 v11 false a' → St k p lo L0 w1 c u col rest (s ++ ws) [] [] [] v8 v9 v10 v11 w' → K a' w') :
    cJ.wp Tryd.prog (Exit.then K Q) a w := by
  rw [cJ_eq]
  refine wp_seq (s133 hC hF fun a1 h1 e1 => ?_)
  refine wp_cond_split (t := false) (show a1.tmps.getD 666 undef = _ from e1) (fun h => by cases h) (fun _ => ?_)
  rw [cJ2_eq]
  refine wp_seq (s142 hC h1 hS (by simp only [List.length_nil]; omega) fun a2 w2 v8 h2 s2 => ?_)
  exact s143 hC h2 s2 fun a3 v11 h3 s3 => hK a3 w2 v8 lbv tbv v11 h3 s3
theorem sJe {k : Kn} {p t mk lo : Nat} {s0 s1 s2 : Int} {L0 : List Value} {w1 : World} (hC : Cx k p mk lo s0 s1 s2 L0 w1) {sg : Bool} {m : Nat} {c u col : Nat} {rest s lb tb ws : List Int} {sv lbv tbv wsv : Value}  {a : Act} {w : World} {K : Act → World → Prop} {Q : Exit → Act → World → Prop} (hF : Fm sg p t mk sv lbv tbv wsv true a) (hS : St k p lo L0 w1 c u col rest s [] tb [] sv lbv tbv wsv w) (hb : s.length + 2 * tb.length ≤ 4 * c)
    (hK : ∀ a' w' v8 v9 v10 v11, Fm sg p t mk v8 v9 v10 v11 true a' → St k p lo L0 w1 c u col rest (s ++ tb) [] [] [] v8 v9 v10 v11 w' → K a' w') :
    cJ.wp Tryd.prog (Exit.then K Q) a w := by
  rw [cJ_eq]
  refine wp_seq (s133 hC hF fun a1 h1 e1 => ?_)
  refine wp_cond_split (t := true) (show a1.tmps.getD 666 undef = _ from e1) (fun _ => ?_) (fun h => by cases h)
  rw [cJ1_eq]
  refine wp_seq ?_
  rw [cJ3_eq]
  refine wp_seq (s134n hC h1 hS fun a2 h2 e2 => ?_)
  refine wp_cond_split (t := false) (show a2.tmps.getD 675 undef = _ from e2) (fun h => by cases h) (fun _ => ?_)
  rw [cJ5_eq]
  refine wp_seq (s138 hC h2 hS (by simp only [List.length_nil]; omega) fun a3 w3 v3 h3 s3 => ?_)
  rw [List.append_nil] at s3
  refine s139 hC h3 s3 (by simp only [List.length_nil]; omega) fun a4 w4 v4 h4 s4 => ?_
  refine wp_seq (s140 hC h4 s4 fun a5 v10 h5 s5 => ?_)
  exact s141 hC h5 s5 fun a6 v9 h6 s6 => hK a6 w4 v4 v9 v10 wsv h6 s6
theorem sJf {k : Kn} {p t mk lo : Nat} {s0 s1 s2 : Int} {L0 : List Value} {w1 : World} (hC : Cx k p mk lo s0 s1 s2 L0 w1) {sg : Bool} {m : Nat} {c u col : Nat} {rest s lb tb ws : List Int} {sv lbv tbv wsv : Value}  {a : Act} {w : World} {K : Act → World → Prop} {Q : Exit → Act → World → Prop} (hF : Fm sg p t mk sv lbv tbv wsv true a) (hS : St k p lo L0 w1 c u col rest s [10] (feeds m) [] sv lbv tbv wsv w) (hb : s.length + 2 * (feeds m).length + 2 ≤ 4 * c)
    (hK : ∀ a' w' v8 v9 v10 v11, Fm sg p t mk v8 v9 v10 v11 true a' → St k p lo L0 w1 c u col rest (s ++ fold m) [] [] [] v8 v9 v10 v11 w' → K a' w') :
    cJ.wp Tryd.prog (Exit.then K Q) a w := by
  rw [cJ_eq]
  refine wp_seq (s133 hC hF fun a1 h1 e1 => ?_)
  refine wp_cond_split (t := true) (show a1.tmps.getD 666 undef = _ from e1) (fun _ => ?_) (fun h => by cases h)
  rw [cJ1_eq]
  refine wp_seq ?_
  rw [cJ3_eq]
  refine wp_seq (s134y hC h1 hS fun a2 h2 e2 => ?_)
  refine wp_cond_split (t := true) (show a2.tmps.getD 675 undef = _ from e2) (fun _ => ?_) (fun h => by cases h)
  rw [cJ4_eq]
  have hlen : (feeds m).length = m := by unfold feeds; simp
  by_cases hm : m = 0
  · subst hm
    refine wp_seq (s135y hC h2 hS rfl fun a3 h3 e3 => ?_)
    refine wp_cond_split (t := true) (show a3.tmps.getD 678 undef = _ from e3) (fun _ => ?_) (fun h => by cases h)
    refine s136 hC h3 hS (by simp only [List.length_nil, List.length_cons]; omega) fun a4 w4 v4 h4 s4 => ?_
    refine wp_seq (s140 hC h4 s4 fun a5 v10 h5 s5 => ?_)
    exact s141 hC h5 s5 fun a6 v9 h6 s6 => hK a6 w4 v4 v9 v10 wsv h6 s6
  · have hne : feeds m ≠ [] := by
      intro h
      rw [h] at hlen
      simp at hlen
      omega
    refine wp_seq (s135n hC h2 hS hne fun a3 h3 e3 => ?_)
    refine wp_cond_split (t := false) (show a3.tmps.getD 678 undef = _ from e3) (fun h => by cases h) (fun _ => ?_)
    refine s137 hC h3 hS (by simp only [List.length_nil, List.length_cons]; omega) fun a4 w4 v4 h4 s4 => ?_
    refine wp_seq (s140 hC h4 s4 fun a5 v10 h5 s5 => ?_)
    refine s141 hC h5 s5 fun a6 v9 h6 s6 => hK a6 w4 v4 v9 v10 wsv h6 ?_
    unfold fold
    rw [if_neg hm]
    exact s6
end Go.Proofs.YtocbbekciphjgaaDoor.Qd
/- QdR -/
/- The loop over white and breaks (yaml_parser_scan_flow_scalar): what it leaves. -/
namespace Go.Proofs.YtocbbekciphjgaaDoor.Qd
open Go.RowKit Go.Proofs.YtocbbekciphjgaaDoor.Rdp Go.Proofs.YtocbbekciphjgaaDoor.Pa Go.Proofs.YtocbbekciphjgaaDoor.Sc
set_option linter.unusedVariables false
set_option linter.unusedSimpArgs false
theorem then_block (k : Nat) (K : Act → World → Prop) (Q : Exit → Act → World → Prop) : Exit.inBlock k (Exit.then K Q) = Exit.then K (Exit.inBlock k (Exit.then K Q)) := by
  funext e a w
  cases e <;> rfl
theorem us_small {l : List Int} (h : ∀ x ∈ l, x < 128) : us l = l := by
  induction l with
  | nil => rfl
  | cons c l ih =>
    show u8 c ++ us l = _
    rw [u8_1 (h c (by simp)), ih (fun x hx => h x (by simp [hx]))]
    rfl
theorem us_feeds (n : Nat) : us (feeds n) = feeds n := us_small (fun x hx => by unfold feeds at hx; rw [List.eq_of_mem_replicate hx]; decide)
theorem us_fold (n : Nat) : us (fold n) = fold n := by
  unfold fold
  split
  · rfl
  · exact us_feeds n
theorem feeds_len (n : Nat) : (feeds n).length = n := by unfold feeds; simp
theorem fold_len (n : Nat) : (fold n).length ≤ n + 1 := by
  unfold fold
  split
  · simp
  · rw [feeds_len]; omega
theorem feeds_snoc (n : Nat) : feeds n ++ [10] = feeds (n + 1) := by
  unfold feeds
  rw [List.replicate_succ']
/-- White in the midst of a line. -/
def D0 (k : Kn) (p lo : Nat) (L0 : List Value) (w1 : World) (sg : Bool) (t mk : Nat) (v : Option (List Int)) (c u col : Nat) (rest out : List Int) (a : Act) (w : World) : Prop :=
  ∃ white sv lbv tbv wsv, Fm sg p t mk sv lbv tbv wsv false a ∧ St k p lo L0 w1 c u col rest (us out) [] [] (us white) sv lbv tbv wsv w ∧ Full sg rest out white v ∧ (us out).length + (us white).length + 2 ≤ 2 * c
/-- Behind a break. -/
def D1 (k : Kn) (p lo : Nat) (L0 : List Value) (w1 : World) (sg : Bool) (t mk : Nat) (v : Option (List Int)) (c u col : Nat) (rest out : List Int) (a : Act) (w : World) : Prop :=
  ∃ m n at' lbl F sv lbv tbv wsv, ((lbl = [10] ∧ F = fold) ∨ (lbl = [] ∧ F = feeds)) ∧ Fm sg p t mk sv lbv tbv wsv true a ∧ St k p lo L0 w1 c u col rest (us out) lbl (feeds m) [] sv lbv tbv wsv w ∧ Emw rest n at' ∧ Full sg at' (out ++ F (m + n)) [] v ∧ (us out).length + lbl.length + m + 2 ≤ 2 * c
/-- Where the loop stands. -/
def Dw (k : Kn) (p lo : Nat) (L0 : List Value) (w1 : World) (sg : Bool) (t mk : Nat) (v : Option (List Int)) (c u col : Nat) (rest out : List Int) (a : Act) (w : World) : Prop :=
  Lfd rest ∧ 1 ≤ u ∧ (col = 0 → marker rest = false) ∧ (D0 k p lo L0 w1 sg t mk v c u col rest out a w ∨ D1 k p lo L0 w1 sg t mk v c u col rest out a w)
theorem blank_head {rest : List Int} (hc : ∀ x ∈ rest, Ch x) (h : (isBlank (fb rest) || fb rest == 10) = true) : ∃ x r, rest = x :: r ∧ x < 128 ∧ fb rest = x ∧ ((wh x = true ∧ isBlank (fb rest) = true) ∨ (x = 10 ∧ isBlank (fb rest) = false)) := by
  have h1 : fb rest = 32 ∨ fb rest = 9 ∨ fb rest = 10 := by
    unfold isBlank at h
    simp at h
    omega
  obtain ⟨y, hy⟩ : ∃ y, fb rest = y := ⟨_, rfl⟩
  rw [hy] at h1
  obtain ⟨r, hr⟩ := fb_inv hc hy (by omega) (by omega)
  refine ⟨y, r, hr, by omega, hy, ?_⟩
  rw [hy]
  rcases h1 with rfl | rfl | rfl
  · exact .inl ⟨rfl, rfl⟩
  · exact .inl ⟨rfl, rfl⟩
  · exact .inr ⟨rfl, rfl⟩
theorem dround {k : Kn} {p t mk lo : Nat} {s0 s1 s2 : Int} {L0 : List Value} {w1 : World} (hC : Cx k p mk lo s0 s1 s2 L0 w1) {sg : Bool} {v : Option (List Int)} {c u col : Nat} {rest out : List Int} {a : Act} {w : World} {K : Act → World → Prop} {Q : Exit → Act → World → Prop} (h : Dw k p lo L0 w1 sg t mk v c u col rest out a w)
    (hK : ∀ a' w' c' u' col' rest', c < c' → c' ≤ k.T.length → Dw k p lo L0 w1 sg t mk v c' u' col' rest' out a' w' → K a' w')
    (hX : ∀ a' w', (isBlank (fb rest) || fb rest == 10) = false → Dw k p lo L0 w1 sg t mk v c u col rest out a' w' → Q (.exit 9) a' w') :
    cD.wp Tryd.prog (Exit.then K Q) a w := by
  obtain ⟨hL, hu, hM, hD⟩ := h
  rw [cD_eq]
  rcases hD with ⟨white, sv, lbv, tbv, wsv, hF, hS, hv, hz⟩ | ⟨m, n, at', lbl, F, sv, lbv, tbv, wsv, hmode, hF, hS, he, hv, hz⟩
  · refine wp_seq (sDh hC hF hS hu ?_ ?_)
    · intro hbl a1 w1' h1 st1
      obtain ⟨x, r, rfl, hx, hfx, hcase⟩ := blank_head hS.here.ch hbl
      obtain ⟨u0, rfl⟩ : ∃ u0, u = u0 + 1 := ⟨u - 1, by omega⟩
      refine wp_block ?_
      rw [then_block]
      refine wp_seq (wp_seq (s120 hC h1 st1 hu fun a2 w2 h2 st2 e2 => ?_))
      rcases hcase with ⟨hw, hb⟩ | ⟨rfl, hb⟩
      · rw [hb] at e2
        refine wp_cond_split (t := true) (show a2.tmps.getD 628 undef = _ from e2) (fun _ => ?_) (fun h => by cases h)
        rw [cDw_eq]
        refine wp_seq (s121 hC h2 fun a3 h3 e3 => ?_)
        refine wp_cond_split (t := true) (show a3.tmps.getD 630 undef = _ from e3) (fun _ => ?_) (fun h => by cases h)
        refine s122 hC h3 st2 fun a4 w4 v4 h4 st4 => ?_
        rw [u8_1 hx] at st4
        rw [← us_snoc hx] at st4
        refine uDv hC h4 st4 fun a5 w5 u5 h5 st5 hr5 hu5 => ?_
        refine hK a5 w5 _ _ _ _ ?_ st5.here.fro.2 ⟨hL.tail, hu5, fun h => by omega, .inl ⟨white ++ [x], _, _, _, _, h5, st5, hv.white hw, ?_⟩⟩
        · simp
        · rw [us_snoc hx]
          simp
          omega
      · rw [hb] at e2
        refine wp_cond_split (t := false) (show a2.tmps.getD 628 undef = _ from e2) (fun h => by cases h) (fun _ => ?_)
        rw [cDb_eq]
        refine wp_seq (u124 hC h2 st2 fun a3 w3 u3 h3 st3 hr3 hu3 => ?_)
        refine wp_seq (s126 hC h3 fun a4 h4 e4 => ?_)
        refine wp_cond_split (t := true) (show a4.tmps.getD 647 undef = _ from e4) (fun _ => ?_) (fun h => by cases h)
        rw [cDf_eq]
        refine wp_seq (s127 hC h4 st3 fun a5 v5 h5 st5 => ?_)
        obtain ⟨u6, rfl⟩ : ∃ u6, u3 = u6 + 1 := ⟨u3 - 1, by omega⟩
        refine wp_seq (s128 hC h5 st5 fun a6 w6 v6 h6 st6 => ?_)
        refine s129 hC h6 fun a7 h7 => ?_
        refine uDv hC h7 st6 fun a8 w8 u8' h8 st8 hr8 hu8 => ?_
        obtain ⟨n, at', g1, g2⟩ := hv.feed
        refine hK a8 w8 _ _ _ _ (by omega) st8.here.fro.2 ⟨hL.tail, hu8, fun _ => g1.mid.1, .inr ⟨0, n, at', [10], fold, _, _, _, _, .inl ⟨rfl, rfl⟩, h8, st8, g1.mid.2, by rw [Nat.zero_add]; exact g2, ?_⟩⟩
        simp
        omega
    · intro hbl a1 w1' h1 st1
      exact hX a1 w1' hbl ⟨hL, hu, hM, .inl ⟨white, _, _, _, _, h1, st1, hv, hz⟩⟩
  · refine wp_seq (sDh hC hF hS hu ?_ ?_)
    · intro hbl a1 w1' h1 st1
      obtain ⟨x, r, rfl, hx, hfx, hcase⟩ := blank_head hS.here.ch hbl
      obtain ⟨u0, rfl⟩ : ∃ u0, u = u0 + 1 := ⟨u - 1, by omega⟩
      refine wp_block ?_
      rw [then_block]
      refine wp_seq (wp_seq (s120 hC h1 st1 hu fun a2 w2 h2 st2 e2 => ?_))
      rcases hcase with ⟨hw, hb⟩ | ⟨rfl, hb⟩
      · rw [hb] at e2
        refine wp_cond_split (t := true) (show a2.tmps.getD 628 undef = _ from e2) (fun _ => ?_) (fun h => by cases h)
        rw [cDw_eq]
        refine wp_seq (s121 hC h2 fun a3 h3 e3 => ?_)
        refine wp_cond_split (t := false) (show a3.tmps.getD 630 undef = _ from e3) (fun h => by cases h) (fun _ => ?_)
        refine s123 hC h3 st2 fun a4 w4 h4 st4 => ?_
        refine uDv hC h4 st4 fun a5 w5 u5 h5 st5 hr5 hu5 => ?_
        rw [u8_1 hx] at st5
        refine hK a5 w5 _ _ _ _ (by simp) st5.here.fro.2 ⟨hL.tail, hu5, fun h => by omega, .inr ⟨m, n, at', lbl, F, _, _, _, _, hmode, h5, st5, he.wht hw, hv, ?_⟩⟩
        simp
        omega
      · rw [hb] at e2
        refine wp_cond_split (t := false) (show a2.tmps.getD 628 undef = _ from e2) (fun h => by cases h) (fun _ => ?_)
        rw [cDb_eq]
        refine wp_seq (u124 hC h2 st2 fun a3 w3 u3 h3 st3 hr3 hu3 => ?_)
        refine wp_seq (s126 hC h3 fun a4 h4 e4 => ?_)
        refine wp_cond_split (t := false) (show a4.tmps.getD 647 undef = _ from e4) (fun h => by cases h) (fun _ => ?_)
        obtain ⟨u6, rfl⟩ : ∃ u6, u3 = u6 + 1 := ⟨u3 - 1, by omega⟩
        refine s130 hC h4 st3 fun a6 w6 v6 h6 st6 => ?_
        rw [feeds_snoc] at st6
        refine uDv hC h6 st6 fun a8 w8 u8' h8 st8 hr8 hu8 => ?_
        obtain ⟨n', rfl, g1⟩ := he.feed
        refine hK a8 w8 _ _ _ _ (by omega) st8.here.fro.2 ⟨hL.tail, hu8, fun _ => g1.mid.1, .inr ⟨m + 1, n', at', lbl, F, _, _, _, _, hmode, h8, st8, g1.mid.2, by rw [show m + 1 + n' = m + (n' + 1) by omega]; exact hv, by omega⟩⟩
    · intro hbl a1 w1' h1 st1
      exact hX a1 w1' hbl ⟨hL, hu, hM, .inr ⟨m, n, at', lbl, F, _, _, _, _, hmode, h1, st1, he, hv, hz⟩⟩
/-- The loop whole. -/
theorem dloop {k : Kn} {p t mk lo : Nat} {s0 s1 s2 : Int} {L0 : List Value} {w1 : World} (hC : Cx k p mk lo s0 s1 s2 L0 w1) {sg : Bool} {v : Option (List Int)} {c u col : Nat} {rest out : List Int} {a : Act} {w : World} {K : Act → World → Prop} {Q : Exit → Act → World → Prop} (hcl : c ≤ k.T.length) (h : Dw k p lo L0 w1 sg t mk v c u col rest out a w)
    (hK : ∀ a' w' c' u' col' rest', c ≤ c' → c' ≤ k.T.length → (isBlank (fb rest') || fb rest' == 10) = false → Dw k p lo L0 w1 sg t mk v c' u' col' rest' out a' w' → K a' w') :
    (Code.block 9 (Code.loop cD)).wp Tryd.prog (Exit.then K Q) a w := by
  refine wp_block ?_
  refine wp_loop_ghost_k (fun g a2 w2 => ∃ c2 u2 col2 rest2, g = k.T.length - c2 ∧ c ≤ c2 ∧ c2 ≤ k.T.length ∧ Dw k p lo L0 w1 sg t mk v c2 u2 col2 rest2 out a2 w2) (k.T.length - c) ⟨c, u, col, rest, rfl, Nat.le_refl _, hcl, h⟩ ?_
  rintro g a2 w2 ⟨c2, u2, col2, rest2, rfl, hc2, hcl2, h2⟩ J K2 hJ hK2
  refine dround hC h2 ?_ ?_
  · intro a3 w3 c3 u3 col3 rest3 hlt hcl3 h3
    exact hK2 _ _ (Handed.intro (k.T.length - c3) (by omega) (hJ _ _ _ ⟨c3, u3, col3, rest3, rfl, by omega, hcl3, h3⟩))
  · intro a3 w3 hb h3
    exact hK a3 w3 c2 u2 col2 rest2 hc2 hcl2 hb h3
end Go.Proofs.YtocbbekciphjgaaDoor.Qd
