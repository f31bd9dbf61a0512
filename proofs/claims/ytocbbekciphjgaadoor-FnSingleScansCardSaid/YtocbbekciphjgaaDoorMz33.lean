/- QdL: parts of the proof, one behind another. -/
import Derived.Test.YtocbbekciphjgaaDoorMz32
/- QdL -/
/- A character, or two, are looked at (yaml_parser_scan_flow_scalar): the walks. Printed by genQdJ.py. -/
namespace Go.Proofs.YtocbbekciphjgaaDoor.Qd
open Go.RowKit Go.Proofs.YtocbbekciphjgaaDoor.Rdp Go.Proofs.YtocbbekciphjgaaDoor.Pa Go.Proofs.YtocbbekciphjgaaDoor.Sc
set_option linter.unusedVariables false
set_option linter.unusedSimpArgs false
set_option maxHeartbeats 32000000 in
set_option maxRecDepth 100000 in
theorem s18 {k : Kn} {p t mk lo : Nat} {s0 s1 s2 : Int} {L0 : List Value} {w1 : World} (hC : Cx k p mk lo s0 s1 s2 L0 w1) {sg : Bool} {c u col : Nat} {rest s lb tb ws : List Int} {sv lbv tbv wsv : Value} {lbr : Bool} {a : Act} {w : World} {K : Act → World → Prop} {Q : Exit → Act → World → Prop} (hF : Fm sg p t mk sv lbv tbv wsv lbr a) (hS : St k p lo L0 w1 c u col rest s lb tb ws sv lbv tbv wsv w) (hu1 : 1 ≤ u)
    (hK : ∀ a' w', Fm sg p t mk sv lbv tbv wsv lbr a' → St k p lo L0 w1 c u col rest s lb tb ws sv lbv tbv wsv w' → gt a' 209 = .bool (sg && (fb rest == 39)) → K a' w') :
    c18.wp Tryd.prog (Exit.then K Q) a w := by
  obtain ⟨bp, bl, mi, ml, z, L, h1, h24, h25, h26, h19, m1, m2, m3, ho⟩ := hS.here.ex
  have hsm := h1.small
  obtain ⟨c16, f16⟩ := at_ h1.pb 16 h1.at16
  obtain ⟨c17, f17⟩ := at_ h1.pb 17 h1.at17
  obtain ⟨c18, f18⟩ := at_ h1.pb 18 h1.at18
  obtain ⟨c26, f26⟩ := at_ h1.pb 26 h26
  have j2 : (bl : Int) ≤ 541 := by omega
  have j0 : (0 : Int) ≤ (bp : Int) := by omega
  obtain ⟨y0, z0, hok0, hlay0⟩ := peek h1 [] rest (by simpa using hS.here.fro) (by simpa using hS.here.ch) (by simp) (by simp; omega)
  obtain ⟨x0, HX0⟩ : ∃ x0, Hid (fb rest = x0) := ⟨_, rfl⟩
  rw [HX0.out] at hok0 hlay0
  have hx0 := hlay0.hx
  have hj0 : (bp : Int) + 0 < (bl : Int) := by have := hlay0.hi; simp at this; omega
  simp only [List.length_nil, List.length_cons, Nat.zero_add, Nat.add_zero] at hlay0 hx0
  have hj0' : (bp : Int) < (bl : Int) := by omega
  rw [HX0.out] at hK
  obtain ⟨b, hb⟩ : ∃ b, (x0 == 39) = b := ⟨_, rfl⟩
  rw [hb] at hK
  have HS := Lib.hid hS
  have HKK := Lib.hid hK
  rw [lit717 a hF.size hF.defers, hF.s0, hF.s1, hF.s2, hF.s7, hF.s8, hF.s9, hF.s10, hF.s11, hF.s12]
  clear h1 h24 h25 h26 h19 ho hC hF hS hK hok0 hlay0
  conv => arg 2; whnf
  try simp only [List.append]
  cases sg <;> cases b
  all_goals
    go_wp2_with fail
    go_quiet (fail)
    go_wp2_with fail
    exact HKK.out _ _ ⟨rfl, rfl, rfl, rfl, rfl, rfl, rfl, rfl, rfl, rfl, rfl⟩ (HS.out.drewN _) rfl
set_option maxHeartbeats 32000000 in
set_option maxRecDepth 100000 in
theorem s19 {k : Kn} {p t mk lo : Nat} {s0 s1 s2 : Int} {L0 : List Value} {w1 : World} (hC : Cx k p mk lo s0 s1 s2 L0 w1) {sg : Bool} {c u col : Nat} {rest s lb tb ws : List Int} {sv lbv tbv wsv : Value} {lbr : Bool} {a : Act} {w : World} {K : Act → World → Prop} {Q : Exit → Act → World → Prop} (hF : Fm sg p t mk sv lbv tbv wsv lbr a) (hS : St k p lo L0 w1 c u col rest s lb tb ws sv lbv tbv wsv w) (hu1 : 1 ≤ u)
    (hK : ∀ a' w', Fm sg p t mk sv lbv tbv wsv lbr a' → St k p lo L0 w1 c u col rest s lb tb ws sv lbv tbv wsv w' → gt a' 224 = .bool (!sg && (fb rest == 34)) → K a' w') :
    c19.wp Tryd.prog (Exit.then K Q) a w := by
  obtain ⟨bp, bl, mi, ml, z, L, h1, h24, h25, h26, h19, m1, m2, m3, ho⟩ := hS.here.ex
  have hsm := h1.small
  obtain ⟨c16, f16⟩ := at_ h1.pb 16 h1.at16
  obtain ⟨c17, f17⟩ := at_ h1.pb 17 h1.at17
  obtain ⟨c18, f18⟩ := at_ h1.pb 18 h1.at18
  obtain ⟨c26, f26⟩ := at_ h1.pb 26 h26
  have j2 : (bl : Int) ≤ 541 := by omega
  have j0 : (0 : Int) ≤ (bp : Int) := by omega
  obtain ⟨y0, z0, hok0, hlay0⟩ := peek h1 [] rest (by simpa using hS.here.fro) (by simpa using hS.here.ch) (by simp) (by simp; omega)
  obtain ⟨x0, HX0⟩ : ∃ x0, Hid (fb rest = x0) := ⟨_, rfl⟩
  rw [HX0.out] at hok0 hlay0
  have hx0 := hlay0.hx
  have hj0 : (bp : Int) + 0 < (bl : Int) := by have := hlay0.hi; simp at this; omega
  simp only [List.length_nil, List.length_cons, Nat.zero_add, Nat.add_zero] at hlay0 hx0
  have hj0' : (bp : Int) < (bl : Int) := by omega
  rw [HX0.out] at hK
  obtain ⟨b, hb⟩ : ∃ b, (x0 == 34) = b := ⟨_, rfl⟩
  rw [hb] at hK
  have HS := Lib.hid hS
  have HKK := Lib.hid hK
  rw [lit717 a hF.size hF.defers, hF.s0, hF.s1, hF.s2, hF.s7, hF.s8, hF.s9, hF.s10, hF.s11, hF.s12]
  clear h1 h24 h25 h26 h19 ho hC hF hS hK hok0 hlay0
  conv => arg 2; whnf
  try simp only [List.append]
  cases sg <;> cases b
  all_goals
    go_wp2_with fail
    go_quiet (fail)
    go_wp2_with fail
    exact HKK.out _ _ ⟨rfl, rfl, rfl, rfl, rfl, rfl, rfl, rfl, rfl, rfl, rfl⟩ (HS.out.drewN _) rfl
set_option maxHeartbeats 32000000 in
set_option maxRecDepth 100000 in
theorem s26 {k : Kn} {p t mk lo : Nat} {s0 s1 s2 : Int} {L0 : List Value} {w1 : World} (hC : Cx k p mk lo s0 s1 s2 L0 w1) {sg : Bool} {c u col : Nat} {rest s lb tb ws : List Int} {sv lbv tbv wsv : Value} {lbr : Bool} {a : Act} {w : World} {K : Act → World → Prop} {Q : Exit → Act → World → Prop} (hF : Fm sg p t mk sv lbv tbv wsv lbr a) (hS : St k p lo L0 w1 c u col rest s lb tb ws sv lbv tbv wsv w) (hu1 : 1 ≤ u)
    (hK : ∀ a' w', Fm sg p t mk sv lbv tbv wsv lbr a' → St k p lo L0 w1 c u col rest s lb tb ws sv lbv tbv wsv w' → gt a' 280 = .bool (!sg && (fb rest == 92)) → K a' w') :
    c26.wp Tryd.prog (Exit.then K Q) a w := by
  obtain ⟨bp, bl, mi, ml, z, L, h1, h24, h25, h26, h19, m1, m2, m3, ho⟩ := hS.here.ex
  have hsm := h1.small
  obtain ⟨c16, f16⟩ := at_ h1.pb 16 h1.at16
  obtain ⟨c17, f17⟩ := at_ h1.pb 17 h1.at17
  obtain ⟨c18, f18⟩ := at_ h1.pb 18 h1.at18
  obtain ⟨c26, f26⟩ := at_ h1.pb 26 h26
  have j2 : (bl : Int) ≤ 541 := by omega
  have j0 : (0 : Int) ≤ (bp : Int) := by omega
  obtain ⟨y0, z0, hok0, hlay0⟩ := peek h1 [] rest (by simpa using hS.here.fro) (by simpa using hS.here.ch) (by simp) (by simp; omega)
  obtain ⟨x0, HX0⟩ : ∃ x0, Hid (fb rest = x0) := ⟨_, rfl⟩
  rw [HX0.out] at hok0 hlay0
  have hx0 := hlay0.hx
  have hj0 : (bp : Int) + 0 < (bl : Int) := by have := hlay0.hi; simp at this; omega
  simp only [List.length_nil, List.length_cons, Nat.zero_add, Nat.add_zero] at hlay0 hx0
  have hj0' : (bp : Int) < (bl : Int) := by omega
  rw [HX0.out] at hK
  obtain ⟨b, hb⟩ : ∃ b, (x0 == 92) = b := ⟨_, rfl⟩
  rw [hb] at hK
  have HS := Lib.hid hS
  have HKK := Lib.hid hK
  rw [lit717 a hF.size hF.defers, hF.s0, hF.s1, hF.s2, hF.s7, hF.s8, hF.s9, hF.s10, hF.s11, hF.s12]
  clear h1 h24 h25 h26 h19 ho hC hF hS hK hok0 hlay0
  conv => arg 2; whnf
  try simp only [List.append]
  cases sg <;> cases b
  all_goals
    go_wp2_with fail
    go_quiet (fail)
    go_wp2_with fail
    exact HKK.out _ _ ⟨rfl, rfl, rfl, rfl, rfl, rfl, rfl, rfl, rfl, rfl, rfl⟩ (HS.out.drewN _) rfl
set_option maxHeartbeats 32000000 in
set_option maxRecDepth 100000 in
theorem s14 {k : Kn} {p t mk lo : Nat} {s0 s1 s2 : Int} {L0 : List Value} {w1 : World} (hC : Cx k p mk lo s0 s1 s2 L0 w1) {sg : Bool} {c u col : Nat} {rest s lb tb ws : List Int} {sv lbv tbv wsv : Value} {lbr : Bool} {a : Act} {w : World} {K : Act → World → Prop} {Q : Exit → Act → World → Prop} (hF : Fm sg p t mk sv lbv tbv wsv lbr a) (hS : St k p lo L0 w1 c u col rest s lb tb ws sv lbv tbv wsv w) (hR : Rdy k.T c 2 u) (hu1 : 1 ≤ u) (hL : Lfd rest)
    (hK : ∀ a' w', Fm sg p t mk sv lbv tbv wsv lbr a' → St k p lo L0 w1 c u col rest s lb tb ws sv lbv tbv wsv w' → gt a' 188 = .bool ((sg && (fb rest == 39)) && (fb rest.tail == 39)) → K a' w') :
    c14.wp Tryd.prog (Exit.then K Q) a w := by
  obtain ⟨bp, bl, mi, ml, z, L, h1, h24, h25, h26, h19, m1, m2, m3, ho⟩ := hS.here.ex
  have hsm := h1.small
  obtain ⟨c16, f16⟩ := at_ h1.pb 16 h1.at16
  obtain ⟨c17, f17⟩ := at_ h1.pb 17 h1.at17
  obtain ⟨c18, f18⟩ := at_ h1.pb 18 h1.at18
  obtain ⟨c26, f26⟩ := at_ h1.pb 26 h26
  have j2 : (bl : Int) ≤ 541 := by omega
  have j0 : (0 : Int) ≤ (bp : Int) := by omega
  obtain ⟨y0, z0, hok0, hlay0⟩ := peek h1 [] rest (by simpa using hS.here.fro) (by simpa using hS.here.ch) (by simp) (by simp; omega)
  obtain ⟨x0, HX0⟩ : ∃ x0, Hid (fb rest = x0) := ⟨_, rfl⟩
  rw [HX0.out] at hok0 hlay0
  have hx0 := hlay0.hx
  have hj0 : (bp : Int) + 0 < (bl : Int) := by have := hlay0.hi; simp at this; omega
  simp only [List.length_nil, List.length_cons, Nat.zero_add, Nat.add_zero] at hlay0 hx0
  have hj0' : (bp : Int) < (bl : Int) := by omega
  rw [HX0.out] at hK
  by_cases hb0 : x0 = 39
  · obtain ⟨r, rfl⟩ := fb_inv hS.here.ch (HX0.out.trans hb0) (by omega) (by omega)
    have hr : r ≠ [] := by
      rintro rfl
      have := hL.last
      omega
    have hu2 : 2 ≤ u := hS.here.has hR (Nat.le_refl _) (by cases r; exact absurd rfl hr; simp)
    obtain ⟨y1, z1, hok1, hlay1⟩ := peek h1 [39] r (by simpa using hS.here.fro) (by simpa using hS.here.ch) (by simp) (by simp; omega)
    obtain ⟨x1, HX1⟩ : ∃ x1, Hid (fb r = x1) := ⟨_, rfl⟩
    rw [HX1.out] at hok1 hlay1
    have hx1 := hlay1.hx
    have hj1 : (bp : Int) + 1 < (bl : Int) := by have := hlay1.hi; simp at this; omega
    simp only [List.length_nil, List.length_cons, Nat.zero_add, Nat.add_zero] at hlay1 hx1
    have hb : (x0 == 39) = true := by simpa using hb0
    obtain ⟨b, hbb⟩ : ∃ b, (x1 == 39) = b := ⟨_, rfl⟩
    rw [hb, show (39 :: r).tail = r from rfl, HX1.out, hbb] at hK
    have HS := Lib.hid hS
    have HKK := Lib.hid hK
    rw [lit717 a hF.size hF.defers, hF.s0, hF.s1, hF.s2, hF.s7, hF.s8, hF.s9, hF.s10, hF.s11, hF.s12]
    clear h1 h24 h25 h26 h19 ho hC hF hS hK hok0 hlay0 hok1 hlay1 hb0 hR hL
    conv => arg 2; whnf
    try simp only [List.append]
    cases sg <;> cases b
    all_goals
      go_wp2_with fail
      go_quiet (fail)
      go_wp2_with fail
      exact HKK.out _ _ ⟨rfl, rfl, rfl, rfl, rfl, rfl, rfl, rfl, rfl, rfl, rfl⟩ (HS.out.drewN _) rfl
  · have hb : (x0 == 39) = false := by simpa using hb0
    rw [hb] at hK
    have HS := Lib.hid hS
    have HKK := Lib.hid hK
    rw [lit717 a hF.size hF.defers, hF.s0, hF.s1, hF.s2, hF.s7, hF.s8, hF.s9, hF.s10, hF.s11, hF.s12]
    clear h1 h24 h25 h26 h19 ho hC hF hS hK hok0 hlay0 hb0 hR hL
    conv => arg 2; whnf
    try simp only [List.append]
    cases sg
    all_goals
      go_wp2_with fail
      go_quiet (fail)
      go_wp2_with fail
      exact HKK.out _ _ ⟨rfl, rfl, rfl, rfl, rfl, rfl, rfl, rfl, rfl, rfl, rfl⟩ (HS.out.drewN _) rfl
set_option maxHeartbeats 32000000 in
set_option maxRecDepth 100000 in
theorem s20 {k : Kn} {p t mk lo : Nat} {s0 s1 s2 : Int} {L0 : List Value} {w1 : World} (hC : Cx k p mk lo s0 s1 s2 L0 w1) {sg : Bool} {c u col : Nat} {rest s lb tb ws : List Int} {sv lbv tbv wsv : Value} {lbr : Bool} {a : Act} {w : World} {K : Act → World → Prop} {Q : Exit → Act → World → Prop} (hF : Fm sg p t mk sv lbv tbv wsv lbr a) (hS : St k p lo L0 w1 c u col rest s lb tb ws sv lbv tbv wsv w) (hR : Rdy k.T c 2 u) (hu1 : 1 ≤ u) (hL : Lfd rest)
    (hK : ∀ a' w', Fm sg p t mk sv lbv tbv wsv lbr a' → St k p lo L0 w1 c u col rest s lb tb ws sv lbv tbv wsv w' → gt a' 251 = .bool ((!sg && (fb rest == 92)) && (fb rest.tail == 10)) → K a' w') :
    c20.wp Tryd.prog (Exit.then K Q) a w := by
  obtain ⟨bp, bl, mi, ml, z, L, h1, h24, h25, h26, h19, m1, m2, m3, ho⟩ := hS.here.ex
  have hsm := h1.small
  obtain ⟨c16, f16⟩ := at_ h1.pb 16 h1.at16
  obtain ⟨c17, f17⟩ := at_ h1.pb 17 h1.at17
  obtain ⟨c18, f18⟩ := at_ h1.pb 18 h1.at18
  obtain ⟨c26, f26⟩ := at_ h1.pb 26 h26
  have j2 : (bl : Int) ≤ 541 := by omega
  have j0 : (0 : Int) ≤ (bp : Int) := by omega
  obtain ⟨y0, z0, hok0, hlay0⟩ := peek h1 [] rest (by simpa using hS.here.fro) (by simpa using hS.here.ch) (by simp) (by simp; omega)
  obtain ⟨x0, HX0⟩ : ∃ x0, Hid (fb rest = x0) := ⟨_, rfl⟩
  rw [HX0.out] at hok0 hlay0
  have hx0 := hlay0.hx
  have hj0 : (bp : Int) + 0 < (bl : Int) := by have := hlay0.hi; simp at this; omega
  simp only [List.length_nil, List.length_cons, Nat.zero_add, Nat.add_zero] at hlay0 hx0
  have hj0' : (bp : Int) < (bl : Int) := by omega
  rw [HX0.out] at hK
  by_cases hb0 : x0 = 92
  · obtain ⟨r, rfl⟩ := fb_inv hS.here.ch (HX0.out.trans hb0) (by omega) (by omega)
    have hr : r ≠ [] := by
      rintro rfl
      have := hL.last
      omega
    have hu2 : 2 ≤ u := hS.here.has hR (Nat.le_refl _) (by cases r; exact absurd rfl hr; simp)
    obtain ⟨y1, z1, hok1, hlay1⟩ := peek h1 [92] r (by simpa using hS.here.fro) (by simpa using hS.here.ch) (by simp) (by simp; omega)
    obtain ⟨x1, HX1⟩ : ∃ x1, Hid (fb r = x1) := ⟨_, rfl⟩
    rw [HX1.out] at hok1 hlay1
    have hx1 := hlay1.hx
    have hj1 : (bp : Int) + 1 < (bl : Int) := by have := hlay1.hi; simp at this; omega
    simp only [List.length_nil, List.length_cons, Nat.zero_add, Nat.add_zero] at hlay1 hx1
    have hb : (x0 == 92) = true := by simpa using hb0
    obtain ⟨b, hbb⟩ : ∃ b, (x1 == 10) = b := ⟨_, rfl⟩
    rw [hb, show (92 :: r).tail = r from rfl, HX1.out, hbb] at hK
    have HS := Lib.hid hS
    have HKK := Lib.hid hK
    have hcall : ∀ N, Calls Tryd.prog 115 #[.slice (some ⟨k.q, 0, none⟩) bl 1536, .int .i64 ((bp : Int) + 1)] (w.drewN N) fun e w' => e = .returned (.bool b) ∧ w' = w.drewN N := fun N => by
      have := brk_any k.q (bp + 1) bl 1536 x1 y1 z1 (by omega) hok1 (w.drewN N) ⟨hlay1.hi, hlay1.hx, hlay1.hy, hlay1.hz⟩
      rw [hbb] at this
      exact this
    have HCALL := Lib.hid hcall
    clear hcall
    rw [lit717 a hF.size hF.defers, hF.s0, hF.s1, hF.s2, hF.s7, hF.s8, hF.s9, hF.s10, hF.s11, hF.s12]
    clear h1 h24 h25 h26 h19 ho hC hF hS hK hok0 hlay0 hok1 hlay1 hb0 hR hL hbb
    conv => arg 2; whnf
    try simp only [List.append]
    cases sg <;> cases b
    all_goals
      go_wp2_with fail
      go_quiet ((go_at_call 115; exact Calls.quiet_of_same (HCALL.out _)))
      go_wp2_with fail
      exact HKK.out _ _ ⟨rfl, rfl, rfl, rfl, rfl, rfl, rfl, rfl, rfl, rfl, rfl⟩ (HS.out.drewN _) rfl
  · have hb : (x0 == 92) = false := by simpa using hb0
    rw [hb] at hK
    have HS := Lib.hid hS
    have HKK := Lib.hid hK
    rw [lit717 a hF.size hF.defers, hF.s0, hF.s1, hF.s2, hF.s7, hF.s8, hF.s9, hF.s10, hF.s11, hF.s12]
    clear h1 h24 h25 h26 h19 ho hC hF hS hK hok0 hlay0 hb0 hR hL
    conv => arg 2; whnf
    try simp only [List.append]
    cases sg
    all_goals
      go_wp2_with fail
      go_quiet (fail)
      go_wp2_with fail
      exact HKK.out _ _ ⟨rfl, rfl, rfl, rfl, rfl, rfl, rfl, rfl, rfl, rfl, rfl⟩ (HS.out.drewN _) rfl
set_option maxHeartbeats 32000000 in
set_option maxRecDepth 100000 in
theorem sQ {k : Kn} {p t mk lo : Nat} {s0 s1 s2 : Int} {L0 : List Value} {w1 : World} (hC : Cx k p mk lo s0 s1 s2 L0 w1) {sg : Bool} {c u col : Nat} {rest s lb tb ws : List Int} {sv lbv tbv wsv : Value} {lbr : Bool} {a : Act} {w : World} {K : Act → World → Prop} {Q : Exit → Act → World → Prop} (hF : Fm sg p t mk sv lbv tbv wsv lbr a) (hS : St k p lo L0 w1 c u col rest s lb tb ws sv lbv tbv wsv w) (hu1 : 1 ≤ u)
    (hK : fb rest ≠ qt sg → ∀ a' w', Fm sg p t mk sv lbv tbv wsv lbr a' → St k p lo L0 w1 c u col rest s lb tb ws sv lbv tbv wsv w' → K a' w')
    (hX : fb rest = qt sg → ∀ a' w', Fm sg p t mk sv lbv tbv wsv lbr a' → St k p lo L0 w1 c u col rest s lb tb ws sv lbv tbv wsv w' → Q (.exit 0) a' w') :
    cQ.wp Tryd.prog (Exit.then K Q) a w := by
  obtain ⟨bp, bl, mi, ml, z, L, h1, h24, h25, h26, h19, m1, m2, m3, ho⟩ := hS.here.ex
  have hsm := h1.small
  obtain ⟨c16, f16⟩ := at_ h1.pb 16 h1.at16
  obtain ⟨c17, f17⟩ := at_ h1.pb 17 h1.at17
  obtain ⟨c18, f18⟩ := at_ h1.pb 18 h1.at18
  obtain ⟨c26, f26⟩ := at_ h1.pb 26 h26
  have j2 : (bl : Int) ≤ 541 := by omega
  have j0 : (0 : Int) ≤ (bp : Int) := by omega
  obtain ⟨y0, z0, hok0, hlay0⟩ := peek h1 [] rest (by simpa using hS.here.fro) (by simpa using hS.here.ch) (by simp) (by simp; omega)
  obtain ⟨x0, HX0⟩ : ∃ x0, Hid (fb rest = x0) := ⟨_, rfl⟩
  rw [HX0.out] at hok0 hlay0
  have hx0 := hlay0.hx
  have hj0 : (bp : Int) + 0 < (bl : Int) := by have := hlay0.hi; simp at this; omega
  simp only [List.length_nil, List.length_cons, Nat.zero_add, Nat.add_zero] at hlay0 hx0
  have hj0' : (bp : Int) < (bl : Int) := by omega
  rw [HX0.out] at hK hX
  have HS := Lib.hid hS
  have HKK := Lib.hid hK
  have HXX := Lib.hid hX
  rw [lit717 a hF.size hF.defers, hF.s0, hF.s1, hF.s2, hF.s7, hF.s8, hF.s9, hF.s10, hF.s11, hF.s12]
  clear h1 h24 h25 h26 h19 ho hC hF hS hK hX hok0 hlay0
  conv => arg 2; whnf
  try simp only [List.append]
  cases sg
  · by_cases hb0 : x0 = 34
    · have hb : (x0 == 34) = true := by simpa using hb0
      have HB := Lib.hid (show x0 = qt false from hb0)
      clear hb0
      go_wp2_with fail
      go_quiet (fail)
      go_wp2_with fail
      exact HXX.out HB.out _ _ ⟨rfl, rfl, rfl, rfl, rfl, rfl, rfl, rfl, rfl, rfl, rfl⟩ (HS.out.drewN _)
    · have hb : (x0 == 34) = false := by simpa using hb0
      have HB := Lib.hid (show x0 ≠ qt false from hb0)
      clear hb0
      go_wp2_with fail
      go_quiet (fail)
      go_wp2_with fail
      exact HKK.out HB.out _ _ ⟨rfl, rfl, rfl, rfl, rfl, rfl, rfl, rfl, rfl, rfl, rfl⟩ (HS.out.drewN _)
  · by_cases hb0 : x0 = 39
    · have hb : (x0 == 39) = true := by simpa using hb0
      have HB := Lib.hid (show x0 = qt true from hb0)
      clear hb0
      go_wp2_with fail
      go_quiet (fail)
      go_wp2_with fail
      exact HXX.out HB.out _ _ ⟨rfl, rfl, rfl, rfl, rfl, rfl, rfl, rfl, rfl, rfl, rfl⟩ (HS.out.drewN _)
    · have hb : (x0 == 39) = false := by simpa using hb0
      have HB := Lib.hid (show x0 ≠ qt true from hb0)
      clear hb0
      go_wp2_with fail
      go_quiet (fail)
      go_wp2_with fail
      exact HKK.out HB.out _ _ ⟨rfl, rfl, rfl, rfl, rfl, rfl, rfl, rfl, rfl, rfl, rfl⟩ (HS.out.drewN _)
end Go.Proofs.YtocbbekciphjgaaDoor.Qd
