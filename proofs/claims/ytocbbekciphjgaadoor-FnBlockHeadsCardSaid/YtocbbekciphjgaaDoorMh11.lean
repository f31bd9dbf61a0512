/- QgB: parts of the proof, one behind another. -/
import Derived.Test.YtocbbekciphjgaaDoorMh5
/- QgB -/
/- The header of a block scalar (yaml_parser_scan_block_scalar): the looks, the walks. Printed by genQg.py. -/
namespace Go.Proofs.YtocbbekciphjgaaDoor.Bs
open Go.RowKit Go.Proofs.YtocbbekciphjgaaDoor.Rdp Go.Proofs.YtocbbekciphjgaaDoor.Pa Go.Proofs.YtocbbekciphjgaaDoor.Sc Go.Proofs.YtocbbekciphjgaaDoor.Qd
set_option linter.unusedVariables false
set_option linter.unusedSimpArgs false
set_option maxHeartbeats 32000000 in
set_option maxRecDepth 100000 in
theorem t6 {k : Kn} {p t mk : Nat} {s0 s1 s2 : Int} {L0 : List Value} {w1 : World} (hC : Ch1 k p mk s0 s1 s2 L0 w1) {li : Bool} {ch : Int} {inc c u col : Nat} {rest : List Int} {a : Act} {w : World} {K : Act → World → Prop} {Q : Exit → Act → World → Prop} (hF : Fh p t mk li ch inc a) (hS : Sh k p L0 w1 c u col rest w) (hu1 : 1 ≤ u)
    (hK : ∀ a' w', Fh p t mk li ch inc a' → Sh k p L0 w1 c u col rest w' → gt a' 56 = .bool (fb rest == 43 || fb rest == 45) → K a' w') :
    g6.wp Tryd.prog (Exit.then K Q) a w := by
  obtain ⟨bp, bl, mi, ml, z, L, h1, h24, h25, h26, h19, m1, m2, m3, ho⟩ := hS.here.ex
  have hsm := h1.small
  obtain ⟨c16, f16⟩ := at_ h1.pb 16 h1.at16
  obtain ⟨c17, f17⟩ := at_ h1.pb 17 h1.at17
  obtain ⟨c18, f18⟩ := at_ h1.pb 18 h1.at18
  obtain ⟨c26, f26⟩ := at_ h1.pb 26 h26
  have j2 : (bl : Int) ≤ 541 := by omega
  have j0 : (0 : Int) ≤ (bp : Int) := by omega
  obtain ⟨y0, z0, hok0, hlay0⟩ := peek h1 [] rest (by simpa using hS.here.fro) (by simpa using hS.here.ch) (by simp) (by simp; omega)
  obtain ⟨x0, HX0⟩ : ∃ x0, Hid (fb rest = x0) := ⟨_, rfl⟩
  rw [HX0.out] at hok0 hlay0
  have hx0 := hlay0.hx
  have hj0 : (bp : Int) + 0 < (bl : Int) := by have := hlay0.hi; simp at this; omega
  simp only [List.length_nil, List.length_cons, Nat.zero_add, Nat.add_zero] at hlay0 hx0
  have hj0' : (bp : Int) < (bl : Int) := by omega
  rw [HX0.out] at hK
  obtain ⟨b1, hb1⟩ : ∃ b, (x0 == 43) = b := ⟨_, rfl⟩
  obtain ⟨b2, hb2⟩ : ∃ b, (x0 == 45) = b := ⟨_, rfl⟩
  rw [hb1, hb2] at hK
  have HS := Lib.hid hS
  have HKK := Lib.hid hK
  rw [lit464 a hF.size hF.defers, hF.s0, hF.s1, hF.s2, hF.s7, hF.s8, hF.s9]
  clear h1 h24 h25 h26 h19 ho hC hF hS hK hok0 hlay0
  conv => arg 2; whnf
  try simp only [List.append]
  cases b1 <;> cases b2
  all_goals
    go_wp2_with fail
    go_quiet (fail)
    go_wp2_with fail
    exact HKK.out _ _ ⟨rfl, rfl, rfl, rfl, rfl, rfl, rfl, rfl⟩ (HS.out.drewN _) rfl
set_option maxHeartbeats 32000000 in
set_option maxRecDepth 100000 in
theorem t7 {k : Kn} {p t mk : Nat} {s0 s1 s2 : Int} {L0 : List Value} {w1 : World} (hC : Ch1 k p mk s0 s1 s2 L0 w1) {li : Bool} {ch : Int} {inc c u col : Nat} {rest : List Int} {a : Act} {w : World} {K : Act → World → Prop} {Q : Exit → Act → World → Prop} (hF : Fh p t mk li ch inc a) (hS : Sh k p L0 w1 c u col rest w) (hu1 : 1 ≤ u)
    (hK : ∀ a' w', Fh p t mk li ch inc a' → Sh k p L0 w1 c u col rest w' → gt a' 67 = .bool (fb rest == 43) → K a' w') :
    g7.wp Tryd.prog (Exit.then K Q) a w := by
  obtain ⟨bp, bl, mi, ml, z, L, h1, h24, h25, h26, h19, m1, m2, m3, ho⟩ := hS.here.ex
  have hsm := h1.small
  obtain ⟨c16, f16⟩ := at_ h1.pb 16 h1.at16
  obtain ⟨c17, f17⟩ := at_ h1.pb 17 h1.at17
  obtain ⟨c18, f18⟩ := at_ h1.pb 18 h1.at18
  obtain ⟨c26, f26⟩ := at_ h1.pb 26 h26
  have j2 : (bl : Int) ≤ 541 := by omega
  have j0 : (0 : Int) ≤ (bp : Int) := by omega
  obtain ⟨y0, z0, hok0, hlay0⟩ := peek h1 [] rest (by simpa using hS.here.fro) (by simpa using hS.here.ch) (by simp) (by simp; omega)
  obtain ⟨x0, HX0⟩ : ∃ x0, Hid (fb rest = x0) := ⟨_, rfl⟩
  rw [HX0.out] at hok0 hlay0
  have hx0 := hlay0.hx
  have hj0 : (bp : Int) + 0 < (bl : Int) := by have := hlay0.hi; simp at this; omega
  simp only [List.length_nil, List.length_cons, Nat.zero_add, Nat.add_zero] at hlay0 hx0
  have hj0' : (bp : Int) < (bl : Int) := by omega
  rw [HX0.out] at hK
  have HS := Lib.hid hS
  have HKK := Lib.hid hK
  rw [lit464 a hF.size hF.defers, hF.s0, hF.s1, hF.s2, hF.s7, hF.s8, hF.s9]
  clear h1 h24 h25 h26 h19 ho hC hF hS hK hok0 hlay0
  conv => arg 2; whnf
  try simp only [List.append]
  go_wp2_with fail
  go_quiet (fail)
  go_wp2_with fail
  exact HKK.out _ _ ⟨rfl, rfl, rfl, rfl, rfl, rfl, rfl, rfl⟩ (HS.out.drewN _) rfl
set_option maxHeartbeats 32000000 in
set_option maxRecDepth 100000 in
theorem t13 {k : Kn} {p t mk : Nat} {s0 s1 s2 : Int} {L0 : List Value} {w1 : World} (hC : Ch1 k p mk s0 s1 s2 L0 w1) {li : Bool} {ch : Int} {inc c u col : Nat} {rest : List Int} {a : Act} {w : World} {K : Act → World → Prop} {Q : Exit → Act → World → Prop} (hF : Fh p t mk li ch inc a) (hS : Sh k p L0 w1 c u col rest w) (hu1 : 1 ≤ u)
    (hK : ∀ a' w', Fh p t mk li ch inc a' → Sh k p L0 w1 c u col rest w' → gt a' 88 = .bool ((isDigit (fb rest))) → K a' w') :
    g13.wp Tryd.prog (Exit.then K Q) a w := by
  obtain ⟨bp, bl, mi, ml, z, L, h1, h24, h25, h26, h19, m1, m2, m3, ho⟩ := hS.here.ex
  have hsm := h1.small
  obtain ⟨c16, f16⟩ := at_ h1.pb 16 h1.at16
  obtain ⟨c17, f17⟩ := at_ h1.pb 17 h1.at17
  obtain ⟨c18, f18⟩ := at_ h1.pb 18 h1.at18
  obtain ⟨c26, f26⟩ := at_ h1.pb 26 h26
  have j2 : (bl : Int) ≤ 541 := by omega
  have j0 : (0 : Int) ≤ (bp : Int) := by omega
  obtain ⟨y0, z0, hok0, hlay0⟩ := peek h1 [] rest (by simpa using hS.here.fro) (by simpa using hS.here.ch) (by simp) (by simp; omega)
  obtain ⟨x0, HX0⟩ : ∃ x0, Hid (fb rest = x0) := ⟨_, rfl⟩
  rw [HX0.out] at hok0 hlay0
  have hx0 := hlay0.hx
  have hj0 : (bp : Int) + 0 < (bl : Int) := by have := hlay0.hi; simp at this; omega
  simp only [List.length_nil, List.length_cons, Nat.zero_add, Nat.add_zero] at hlay0 hx0
  have hj0' : (bp : Int) < (bl : Int) := by omega
  have hcall : ∀ N, Calls Tryd.prog 120 #[.slice (some ⟨k.q, 0, none⟩) bl 1536, .int .i64 bp] (w.drewN N) fun e w' => e = .returned (.bool (isDigit x0)) ∧ w' = w.drewN N := fun N => digit_any k.q bp bl 1536 x0 (w.drewN N) (by have := hlay0.hi; omega) (by omega) hx0
  rw [HX0.out] at hK
  obtain ⟨b1, hb1⟩ : ∃ b, (isDigit x0) = b := ⟨_, rfl⟩
  rw [hb1] at hcall hK
  have HCALL := Lib.hid hcall
  have HS := Lib.hid hS
  have HKK := Lib.hid hK
  rw [lit464 a hF.size hF.defers, hF.s0, hF.s1, hF.s2, hF.s7, hF.s8, hF.s9]
  clear h1 h24 h25 h26 h19 ho hC hF hS hK hcall hok0 hlay0 hx0 hb1
  conv => arg 2; whnf
  try simp only [List.append]
  go_wp2_with fail
  go_quiet ((go_at_call 120; exact Calls.quiet_of_same (HCALL.out _)))
  go_wp2_with fail
  exact HKK.out _ _ ⟨rfl, rfl, rfl, rfl, rfl, rfl, rfl, rfl⟩ (HS.out.drewN _) rfl
set_option maxHeartbeats 32000000 in
set_option maxRecDepth 100000 in
theorem t14 {k : Kn} {p t mk : Nat} {s0 s1 s2 : Int} {L0 : List Value} {w1 : World} (hC : Ch1 k p mk s0 s1 s2 L0 w1) {li : Bool} {ch : Int} {inc c u col : Nat} {rest : List Int} {a : Act} {w : World} {K : Act → World → Prop} {Q : Exit → Act → World → Prop} (hF : Fh p t mk li ch inc a) (hS : Sh k p L0 w1 c u col rest w) (hu1 : 1 ≤ u)
    (hK : ∀ a' w', Fh p t mk li ch inc a' → Sh k p L0 w1 c u col rest w' → gt a' 99 = .bool (fb rest == 48) → K a' w') :
    g14.wp Tryd.prog (Exit.then K Q) a w := by
  obtain ⟨bp, bl, mi, ml, z, L, h1, h24, h25, h26, h19, m1, m2, m3, ho⟩ := hS.here.ex
  have hsm := h1.small
  obtain ⟨c16, f16⟩ := at_ h1.pb 16 h1.at16
  obtain ⟨c17, f17⟩ := at_ h1.pb 17 h1.at17
  obtain ⟨c18, f18⟩ := at_ h1.pb 18 h1.at18
  obtain ⟨c26, f26⟩ := at_ h1.pb 26 h26
  have j2 : (bl : Int) ≤ 541 := by omega
  have j0 : (0 : Int) ≤ (bp : Int) := by omega
  obtain ⟨y0, z0, hok0, hlay0⟩ := peek h1 [] rest (by simpa using hS.here.fro) (by simpa using hS.here.ch) (by simp) (by simp; omega)
  obtain ⟨x0, HX0⟩ : ∃ x0, Hid (fb rest = x0) := ⟨_, rfl⟩
  rw [HX0.out] at hok0 hlay0
  have hx0 := hlay0.hx
  have hj0 : (bp : Int) + 0 < (bl : Int) := by have := hlay0.hi; simp at this; omega
  simp only [List.length_nil, List.length_cons, Nat.zero_add, Nat.add_zero] at hlay0 hx0
  have hj0' : (bp : Int) < (bl : Int) := by omega
  rw [HX0.out] at hK
  have HS := Lib.hid hS
  have HKK := Lib.hid hK
  rw [lit464 a hF.size hF.defers, hF.s0, hF.s1, hF.s2, hF.s7, hF.s8, hF.s9]
  clear h1 h24 h25 h26 h19 ho hC hF hS hK hok0 hlay0
  conv => arg 2; whnf
  try simp only [List.append]
  go_wp2_with fail
  go_quiet (fail)
  go_wp2_with fail
  exact HKK.out _ _ ⟨rfl, rfl, rfl, rfl, rfl, rfl, rfl, rfl⟩ (HS.out.drewN _) rfl
set_option maxHeartbeats 32000000 in
set_option maxRecDepth 100000 in
theorem t19 {k : Kn} {p t mk : Nat} {s0 s1 s2 : Int} {L0 : List Value} {w1 : World} (hC : Ch1 k p mk s0 s1 s2 L0 w1) {li : Bool} {ch : Int} {inc c u col : Nat} {rest : List Int} {a : Act} {w : World} {K : Act → World → Prop} {Q : Exit → Act → World → Prop} (hF : Fh p t mk li ch inc a) (hS : Sh k p L0 w1 c u col rest w) (hu1 : 1 ≤ u)
    (hK : ∀ a' w', Fh p t mk li ch inc a' → Sh k p L0 w1 c u col rest w' → gt a' 122 = .bool ((isDigit (fb rest))) → K a' w') :
    g19.wp Tryd.prog (Exit.then K Q) a w := by
  obtain ⟨bp, bl, mi, ml, z, L, h1, h24, h25, h26, h19, m1, m2, m3, ho⟩ := hS.here.ex
  have hsm := h1.small
  obtain ⟨c16, f16⟩ := at_ h1.pb 16 h1.at16
  obtain ⟨c17, f17⟩ := at_ h1.pb 17 h1.at17
  obtain ⟨c18, f18⟩ := at_ h1.pb 18 h1.at18
  obtain ⟨c26, f26⟩ := at_ h1.pb 26 h26
  have j2 : (bl : Int) ≤ 541 := by omega
  have j0 : (0 : Int) ≤ (bp : Int) := by omega
  obtain ⟨y0, z0, hok0, hlay0⟩ := peek h1 [] rest (by simpa using hS.here.fro) (by simpa using hS.here.ch) (by simp) (by simp; omega)
  obtain ⟨x0, HX0⟩ : ∃ x0, Hid (fb rest = x0) := ⟨_, rfl⟩
  rw [HX0.out] at hok0 hlay0
  have hx0 := hlay0.hx
  have hj0 : (bp : Int) + 0 < (bl : Int) := by have := hlay0.hi; simp at this; omega
  simp only [List.length_nil, List.length_cons, Nat.zero_add, Nat.add_zero] at hlay0 hx0
  have hj0' : (bp : Int) < (bl : Int) := by omega
  have hcall : ∀ N, Calls Tryd.prog 120 #[.slice (some ⟨k.q, 0, none⟩) bl 1536, .int .i64 bp] (w.drewN N) fun e w' => e = .returned (.bool (isDigit x0)) ∧ w' = w.drewN N := fun N => digit_any k.q bp bl 1536 x0 (w.drewN N) (by have := hlay0.hi; omega) (by omega) hx0
  rw [HX0.out] at hK
  obtain ⟨b1, hb1⟩ : ∃ b, (isDigit x0) = b := ⟨_, rfl⟩
  rw [hb1] at hcall hK
  have HCALL := Lib.hid hcall
  have HS := Lib.hid hS
  have HKK := Lib.hid hK
  rw [lit464 a hF.size hF.defers, hF.s0, hF.s1, hF.s2, hF.s7, hF.s8, hF.s9]
  clear h1 h24 h25 h26 h19 ho hC hF hS hK hcall hok0 hlay0 hx0 hb1
  conv => arg 2; whnf
  try simp only [List.append]
  go_wp2_with fail
  go_quiet ((go_at_call 120; exact Calls.quiet_of_same (HCALL.out _)))
  go_wp2_with fail
  exact HKK.out _ _ ⟨rfl, rfl, rfl, rfl, rfl, rfl, rfl, rfl⟩ (HS.out.drewN _) rfl
set_option maxHeartbeats 32000000 in
set_option maxRecDepth 100000 in
theorem t20 {k : Kn} {p t mk : Nat} {s0 s1 s2 : Int} {L0 : List Value} {w1 : World} (hC : Ch1 k p mk s0 s1 s2 L0 w1) {li : Bool} {ch : Int} {inc c u col : Nat} {rest : List Int} {a : Act} {w : World} {K : Act → World → Prop} {Q : Exit → Act → World → Prop} (hF : Fh p t mk li ch inc a) (hS : Sh k p L0 w1 c u col rest w) (hu1 : 1 ≤ u)
    (hK : ∀ a' w', Fh p t mk li ch inc a' → Sh k p L0 w1 c u col rest w' → gt a' 133 = .bool (fb rest == 48) → K a' w') :
    g20.wp Tryd.prog (Exit.then K Q) a w := by
  obtain ⟨bp, bl, mi, ml, z, L, h1, h24, h25, h26, h19, m1, m2, m3, ho⟩ := hS.here.ex
  have hsm := h1.small
  obtain ⟨c16, f16⟩ := at_ h1.pb 16 h1.at16
  obtain ⟨c17, f17⟩ := at_ h1.pb 17 h1.at17
  obtain ⟨c18, f18⟩ := at_ h1.pb 18 h1.at18
  obtain ⟨c26, f26⟩ := at_ h1.pb 26 h26
  have j2 : (bl : Int) ≤ 541 := by omega
  have j0 : (0 : Int) ≤ (bp : Int) := by omega
  obtain ⟨y0, z0, hok0, hlay0⟩ := peek h1 [] rest (by simpa using hS.here.fro) (by simpa using hS.here.ch) (by simp) (by simp; omega)
  obtain ⟨x0, HX0⟩ : ∃ x0, Hid (fb rest = x0) := ⟨_, rfl⟩
  rw [HX0.out] at hok0 hlay0
  have hx0 := hlay0.hx
  have hj0 : (bp : Int) + 0 < (bl : Int) := by have := hlay0.hi; simp at this; omega
  simp only [List.length_nil, List.length_cons, Nat.zero_add, Nat.add_zero] at hlay0 hx0
  have hj0' : (bp : Int) < (bl : Int) := by omega
  rw [HX0.out] at hK
  have HS := Lib.hid hS
  have HKK := Lib.hid hK
  rw [lit464 a hF.size hF.defers, hF.s0, hF.s1, hF.s2, hF.s7, hF.s8, hF.s9]
  clear h1 h24 h25 h26 h19 ho hC hF hS hK hok0 hlay0
  conv => arg 2; whnf
  try simp only [List.append]
  go_wp2_with fail
  go_quiet (fail)
  go_wp2_with fail
  exact HKK.out _ _ ⟨rfl, rfl, rfl, rfl, rfl, rfl, rfl, rfl⟩ (HS.out.drewN _) rfl
set_option maxHeartbeats 32000000 in
set_option maxRecDepth 100000 in
theorem t27 {k : Kn} {p t mk : Nat} {s0 s1 s2 : Int} {L0 : List Value} {w1 : World} (hC : Ch1 k p mk s0 s1 s2 L0 w1) {li : Bool} {ch : Int} {inc c u col : Nat} {rest : List Int} {a : Act} {w : World} {K : Act → World → Prop} {Q : Exit → Act → World → Prop} (hF : Fh p t mk li ch inc a) (hS : Sh k p L0 w1 c u col rest w) (hu1 : 1 ≤ u)
    (hK : ∀ a' w', Fh p t mk li ch inc a' → Sh k p L0 w1 c u col rest w' → gt a' 181 = .bool (fb rest == 43 || fb rest == 45) → K a' w') :
    g27.wp Tryd.prog (Exit.then K Q) a w := by
  obtain ⟨bp, bl, mi, ml, z, L, h1, h24, h25, h26, h19, m1, m2, m3, ho⟩ := hS.here.ex
  have hsm := h1.small
  obtain ⟨c16, f16⟩ := at_ h1.pb 16 h1.at16
  obtain ⟨c17, f17⟩ := at_ h1.pb 17 h1.at17
  obtain ⟨c18, f18⟩ := at_ h1.pb 18 h1.at18
  obtain ⟨c26, f26⟩ := at_ h1.pb 26 h26
  have j2 : (bl : Int) ≤ 541 := by omega
  have j0 : (0 : Int) ≤ (bp : Int) := by omega
  obtain ⟨y0, z0, hok0, hlay0⟩ := peek h1 [] rest (by simpa using hS.here.fro) (by simpa using hS.here.ch) (by simp) (by simp; omega)
  obtain ⟨x0, HX0⟩ : ∃ x0, Hid (fb rest = x0) := ⟨_, rfl⟩
  rw [HX0.out] at hok0 hlay0
  have hx0 := hlay0.hx
  have hj0 : (bp : Int) + 0 < (bl : Int) := by have := hlay0.hi; simp at this; omega
  simp only [List.length_nil, List.length_cons, Nat.zero_add, Nat.add_zero] at hlay0 hx0
  have hj0' : (bp : Int) < (bl : Int) := by omega
  rw [HX0.out] at hK
  obtain ⟨b1, hb1⟩ : ∃ b, (x0 == 43) = b := ⟨_, rfl⟩
  obtain ⟨b2, hb2⟩ : ∃ b, (x0 == 45) = b := ⟨_, rfl⟩
  rw [hb1, hb2] at hK
  have HS := Lib.hid hS
  have HKK := Lib.hid hK
  rw [lit464 a hF.size hF.defers, hF.s0, hF.s1, hF.s2, hF.s7, hF.s8, hF.s9]
  clear h1 h24 h25 h26 h19 ho hC hF hS hK hok0 hlay0
  conv => arg 2; whnf
  try simp only [List.append]
  cases b1 <;> cases b2
  all_goals
    go_wp2_with fail
    go_quiet (fail)
    go_wp2_with fail
    exact HKK.out _ _ ⟨rfl, rfl, rfl, rfl, rfl, rfl, rfl, rfl⟩ (HS.out.drewN _) rfl
set_option maxHeartbeats 32000000 in
set_option maxRecDepth 100000 in
theorem t28 {k : Kn} {p t mk : Nat} {s0 s1 s2 : Int} {L0 : List Value} {w1 : World} (hC : Ch1 k p mk s0 s1 s2 L0 w1) {li : Bool} {ch : Int} {inc c u col : Nat} {rest : List Int} {a : Act} {w : World} {K : Act → World → Prop} {Q : Exit → Act → World → Prop} (hF : Fh p t mk li ch inc a) (hS : Sh k p L0 w1 c u col rest w) (hu1 : 1 ≤ u)
    (hK : ∀ a' w', Fh p t mk li ch inc a' → Sh k p L0 w1 c u col rest w' → gt a' 192 = .bool (fb rest == 43) → K a' w') :
    g28.wp Tryd.prog (Exit.then K Q) a w := by
  obtain ⟨bp, bl, mi, ml, z, L, h1, h24, h25, h26, h19, m1, m2, m3, ho⟩ := hS.here.ex
  have hsm := h1.small
  obtain ⟨c16, f16⟩ := at_ h1.pb 16 h1.at16
  obtain ⟨c17, f17⟩ := at_ h1.pb 17 h1.at17
  obtain ⟨c18, f18⟩ := at_ h1.pb 18 h1.at18
  obtain ⟨c26, f26⟩ := at_ h1.pb 26 h26
  have j2 : (bl : Int) ≤ 541 := by omega
  have j0 : (0 : Int) ≤ (bp : Int) := by omega
  obtain ⟨y0, z0, hok0, hlay0⟩ := peek h1 [] rest (by simpa using hS.here.fro) (by simpa using hS.here.ch) (by simp) (by simp; omega)
  obtain ⟨x0, HX0⟩ : ∃ x0, Hid (fb rest = x0) := ⟨_, rfl⟩
  rw [HX0.out] at hok0 hlay0
  have hx0 := hlay0.hx
  have hj0 : (bp : Int) + 0 < (bl : Int) := by have := hlay0.hi; simp at this; omega
  simp only [List.length_nil, List.length_cons, Nat.zero_add, Nat.add_zero] at hlay0 hx0
  have hj0' : (bp : Int) < (bl : Int) := by omega
  rw [HX0.out] at hK
  have HS := Lib.hid hS
  have HKK := Lib.hid hK
  rw [lit464 a hF.size hF.defers, hF.s0, hF.s1, hF.s2, hF.s7, hF.s8, hF.s9]
  clear h1 h24 h25 h26 h19 ho hC hF hS hK hok0 hlay0
  conv => arg 2; whnf
  try simp only [List.append]
  go_wp2_with fail
  go_quiet (fail)
  go_wp2_with fail
  exact HKK.out _ _ ⟨rfl, rfl, rfl, rfl, rfl, rfl, rfl, rfl⟩ (HS.out.drewN _) rfl
set_option maxHeartbeats 32000000 in
set_option maxRecDepth 100000 in
theorem t34 {k : Kn} {p t mk : Nat} {s0 s1 s2 : Int} {L0 : List Value} {w1 : World} (hC : Ch1 k p mk s0 s1 s2 L0 w1) {li : Bool} {ch : Int} {inc c u col : Nat} {rest : List Int} {a : Act} {w : World} {K : Act → World → Prop} {Q : Exit → Act → World → Prop} (hF : Fh p t mk li ch inc a) (hS : Sh k p L0 w1 c u col rest w) (hu1 : 1 ≤ u)
    (hK : ∀ a' w', Fh p t mk li ch inc a' → Sh k p L0 w1 c u col rest w' → gt a' 213 = .bool ((isBlank (fb rest))) → K a' w') :
    g34.wp Tryd.prog (Exit.then K Q) a w := by
  obtain ⟨bp, bl, mi, ml, z, L, h1, h24, h25, h26, h19, m1, m2, m3, ho⟩ := hS.here.ex
  have hsm := h1.small
  obtain ⟨c16, f16⟩ := at_ h1.pb 16 h1.at16
  obtain ⟨c17, f17⟩ := at_ h1.pb 17 h1.at17
  obtain ⟨c18, f18⟩ := at_ h1.pb 18 h1.at18
  obtain ⟨c26, f26⟩ := at_ h1.pb 26 h26
  have j2 : (bl : Int) ≤ 541 := by omega
  have j0 : (0 : Int) ≤ (bp : Int) := by omega
  obtain ⟨y0, z0, hok0, hlay0⟩ := peek h1 [] rest (by simpa using hS.here.fro) (by simpa using hS.here.ch) (by simp) (by simp; omega)
  obtain ⟨x0, HX0⟩ : ∃ x0, Hid (fb rest = x0) := ⟨_, rfl⟩
  rw [HX0.out] at hok0 hlay0
  have hx0 := hlay0.hx
  have hj0 : (bp : Int) + 0 < (bl : Int) := by have := hlay0.hi; simp at this; omega
  simp only [List.length_nil, List.length_cons, Nat.zero_add, Nat.add_zero] at hlay0 hx0
  have hj0' : (bp : Int) < (bl : Int) := by omega
  have hcall : ∀ N, Calls Tryd.prog 102 #[.slice (some ⟨k.q, 0, none⟩) bl 1536, .int .i64 bp] (w.drewN N) fun e w' => e = .returned (.bool (isBlank x0)) ∧ w' = w.drewN N := fun N => blank_any k.q bp bl 1536 x0 (w.drewN N) (by have := hlay0.hi; omega) (by omega) hx0
  rw [HX0.out] at hK
  obtain ⟨b1, hb1⟩ : ∃ b, (isBlank x0) = b := ⟨_, rfl⟩
  rw [hb1] at hcall hK
  have HCALL := Lib.hid hcall
  have HS := Lib.hid hS
  have HKK := Lib.hid hK
  rw [lit464 a hF.size hF.defers, hF.s0, hF.s1, hF.s2, hF.s7, hF.s8, hF.s9]
  clear h1 h24 h25 h26 h19 ho hC hF hS hK hcall hok0 hlay0 hx0 hb1
  conv => arg 2; whnf
  try simp only [List.append]
  go_wp2_with fail
  go_quiet ((go_at_call 102; exact Calls.quiet_of_same (HCALL.out _)))
  go_wp2_with fail
  exact HKK.out _ _ ⟨rfl, rfl, rfl, rfl, rfl, rfl, rfl, rfl⟩ (HS.out.drewN _) rfl
set_option maxHeartbeats 32000000 in
set_option maxRecDepth 100000 in
theorem t38 {k : Kn} {p t mk : Nat} {s0 s1 s2 : Int} {L0 : List Value} {w1 : World} (hC : Ch1 k p mk s0 s1 s2 L0 w1) {li : Bool} {ch : Int} {inc c u col : Nat} {rest : List Int} {a : Act} {w : World} {K : Act → World → Prop} {Q : Exit → Act → World → Prop} (hF : Fh p t mk li ch inc a) (hS : Sh k p L0 w1 c u col rest w) (hu1 : 1 ≤ u)
    (hK : ∀ a' w', Fh p t mk li ch inc a' → Sh k p L0 w1 c u col rest w' → gt a' 236 = .bool (fb rest == 35) → K a' w') :
    g38.wp Tryd.prog (Exit.then K Q) a w := by
  obtain ⟨bp, bl, mi, ml, z, L, h1, h24, h25, h26, h19, m1, m2, m3, ho⟩ := hS.here.ex
  have hsm := h1.small
  obtain ⟨c16, f16⟩ := at_ h1.pb 16 h1.at16
  obtain ⟨c17, f17⟩ := at_ h1.pb 17 h1.at17
  obtain ⟨c18, f18⟩ := at_ h1.pb 18 h1.at18
  obtain ⟨c26, f26⟩ := at_ h1.pb 26 h26
  have j2 : (bl : Int) ≤ 541 := by omega
  have j0 : (0 : Int) ≤ (bp : Int) := by omega
  obtain ⟨y0, z0, hok0, hlay0⟩ := peek h1 [] rest (by simpa using hS.here.fro) (by simpa using hS.here.ch) (by simp) (by simp; omega)
  obtain ⟨x0, HX0⟩ : ∃ x0, Hid (fb rest = x0) := ⟨_, rfl⟩
  rw [HX0.out] at hok0 hlay0
  have hx0 := hlay0.hx
  have hj0 : (bp : Int) + 0 < (bl : Int) := by have := hlay0.hi; simp at this; omega
  simp only [List.length_nil, List.length_cons, Nat.zero_add, Nat.add_zero] at hlay0 hx0
  have hj0' : (bp : Int) < (bl : Int) := by omega
  rw [HX0.out] at hK
  have HS := Lib.hid hS
  have HKK := Lib.hid hK
  rw [lit464 a hF.size hF.defers, hF.s0, hF.s1, hF.s2, hF.s7, hF.s8, hF.s9]
  clear h1 h24 h25 h26 h19 ho hC hF hS hK hok0 hlay0
  conv => arg 2; whnf
  try simp only [List.append]
  go_wp2_with fail
  go_quiet (fail)
  go_wp2_with fail
  exact HKK.out _ _ ⟨rfl, rfl, rfl, rfl, rfl, rfl, rfl, rfl⟩ (HS.out.drewN _) rfl
set_option maxHeartbeats 32000000 in
set_option maxRecDepth 100000 in
theorem t41 {k : Kn} {p t mk : Nat} {s0 s1 s2 : Int} {L0 : List Value} {w1 : World} (hC : Ch1 k p mk s0 s1 s2 L0 w1) {li : Bool} {ch : Int} {inc c u col : Nat} {rest : List Int} {a : Act} {w : World} {K : Act → World → Prop} {Q : Exit → Act → World → Prop} (hF : Fh p t mk li ch inc a) (hS : Sh k p L0 w1 c u col rest w) (hu1 : 1 ≤ u)
    (hK : ∀ a' w', Fh p t mk li ch inc a' → Sh k p L0 w1 c u col rest w' → gt a' 250 = .bool (!(isBrz (fb rest))) → K a' w') :
    g41.wp Tryd.prog (Exit.then K Q) a w := by
  obtain ⟨bp, bl, mi, ml, z, L, h1, h24, h25, h26, h19, m1, m2, m3, ho⟩ := hS.here.ex
  have hsm := h1.small
  obtain ⟨c16, f16⟩ := at_ h1.pb 16 h1.at16
  obtain ⟨c17, f17⟩ := at_ h1.pb 17 h1.at17
  obtain ⟨c18, f18⟩ := at_ h1.pb 18 h1.at18
  obtain ⟨c26, f26⟩ := at_ h1.pb 26 h26
  have j2 : (bl : Int) ≤ 541 := by omega
  have j0 : (0 : Int) ≤ (bp : Int) := by omega
  obtain ⟨y0, z0, hok0, hlay0⟩ := peek h1 [] rest (by simpa using hS.here.fro) (by simpa using hS.here.ch) (by simp) (by simp; omega)
  obtain ⟨x0, HX0⟩ : ∃ x0, Hid (fb rest = x0) := ⟨_, rfl⟩
  rw [HX0.out] at hok0 hlay0
  have hx0 := hlay0.hx
  have hj0 : (bp : Int) + 0 < (bl : Int) := by have := hlay0.hi; simp at this; omega
  simp only [List.length_nil, List.length_cons, Nat.zero_add, Nat.add_zero] at hlay0 hx0
  have hj0' : (bp : Int) < (bl : Int) := by omega
  have hcall : ∀ N, Calls Tryd.prog 123 #[.slice (some ⟨k.q, 0, none⟩) bl 1536, .int .i64 bp] (w.drewN N) fun e w' => e = .returned (.bool (isBrz x0)) ∧ w' = w.drewN N := fun N => brz_any k.q bp bl 1536 x0 y0 z0 (by omega) hok0 (w.drewN N) ⟨hlay0.hi, hlay0.hx, hlay0.hy, hlay0.hz⟩
  rw [HX0.out] at hK
  obtain ⟨b1, hb1⟩ : ∃ b, (isBrz x0) = b := ⟨_, rfl⟩
  rw [hb1] at hcall hK
  have HCALL := Lib.hid hcall
  have HS := Lib.hid hS
  have HKK := Lib.hid hK
  rw [lit464 a hF.size hF.defers, hF.s0, hF.s1, hF.s2, hF.s7, hF.s8, hF.s9]
  clear h1 h24 h25 h26 h19 ho hC hF hS hK hcall hok0 hlay0 hx0 hb1
  conv => arg 2; whnf
  try simp only [List.append]
  go_wp2_with fail
  go_quiet ((go_at_call 123; exact Calls.quiet_of_same (HCALL.out _)))
  go_wp2_with fail
  exact HKK.out _ _ ⟨rfl, rfl, rfl, rfl, rfl, rfl, rfl, rfl⟩ (HS.out.drewN _) rfl
set_option maxHeartbeats 32000000 in
set_option maxRecDepth 100000 in
theorem t45 {k : Kn} {p t mk : Nat} {s0 s1 s2 : Int} {L0 : List Value} {w1 : World} (hC : Ch1 k p mk s0 s1 s2 L0 w1) {li : Bool} {ch : Int} {inc c u col : Nat} {rest : List Int} {a : Act} {w : World} {K : Act → World → Prop} {Q : Exit → Act → World → Prop} (hF : Fh p t mk li ch inc a) (hS : Sh k p L0 w1 c u col rest w) (hu1 : 1 ≤ u)
    (hK : ∀ a' w', Fh p t mk li ch inc a' → Sh k p L0 w1 c u col rest w' → gt a' 272 = .bool (!(isBrz (fb rest))) → K a' w') :
    g45.wp Tryd.prog (Exit.then K Q) a w := by
  obtain ⟨bp, bl, mi, ml, z, L, h1, h24, h25, h26, h19, m1, m2, m3, ho⟩ := hS.here.ex
  have hsm := h1.small
  obtain ⟨c16, f16⟩ := at_ h1.pb 16 h1.at16
  obtain ⟨c17, f17⟩ := at_ h1.pb 17 h1.at17
  obtain ⟨c18, f18⟩ := at_ h1.pb 18 h1.at18
  obtain ⟨c26, f26⟩ := at_ h1.pb 26 h26
  have j2 : (bl : Int) ≤ 541 := by omega
  have j0 : (0 : Int) ≤ (bp : Int) := by omega
  obtain ⟨y0, z0, hok0, hlay0⟩ := peek h1 [] rest (by simpa using hS.here.fro) (by simpa using hS.here.ch) (by simp) (by simp; omega)
  obtain ⟨x0, HX0⟩ : ∃ x0, Hid (fb rest = x0) := ⟨_, rfl⟩
  rw [HX0.out] at hok0 hlay0
  have hx0 := hlay0.hx
  have hj0 : (bp : Int) + 0 < (bl : Int) := by have := hlay0.hi; simp at this; omega
  simp only [List.length_nil, List.length_cons, Nat.zero_add, Nat.add_zero] at hlay0 hx0
  have hj0' : (bp : Int) < (bl : Int) := by omega
  have hcall : ∀ N, Calls Tryd.prog 123 #[.slice (some ⟨k.q, 0, none⟩) bl 1536, .int .i64 bp] (w.drewN N) fun e w' => e = .returned (.bool (isBrz x0)) ∧ w' = w.drewN N := fun N => brz_any k.q bp bl 1536 x0 y0 z0 (by omega) hok0 (w.drewN N) ⟨hlay0.hi, hlay0.hx, hlay0.hy, hlay0.hz⟩
  rw [HX0.out] at hK
  obtain ⟨b1, hb1⟩ : ∃ b, (isBrz x0) = b := ⟨_, rfl⟩
  rw [hb1] at hcall hK
  have HCALL := Lib.hid hcall
  have HS := Lib.hid hS
  have HKK := Lib.hid hK
  rw [lit464 a hF.size hF.defers, hF.s0, hF.s1, hF.s2, hF.s7, hF.s8, hF.s9]
  clear h1 h24 h25 h26 h19 ho hC hF hS hK hcall hok0 hlay0 hx0 hb1
  conv => arg 2; whnf
  try simp only [List.append]
  go_wp2_with fail
  go_quiet ((go_at_call 123; exact Calls.quiet_of_same (HCALL.out _)))
  go_wp2_with fail
  exact HKK.out _ _ ⟨rfl, rfl, rfl, rfl, rfl, rfl, rfl, rfl⟩ (HS.out.drewN _) rfl
set_option maxHeartbeats 32000000 in
set_option maxRecDepth 100000 in
theorem t48 {k : Kn} {p t mk : Nat} {s0 s1 s2 : Int} {L0 : List Value} {w1 : World} (hC : Ch1 k p mk s0 s1 s2 L0 w1) {li : Bool} {ch : Int} {inc c u col : Nat} {rest : List Int} {a : Act} {w : World} {K : Act → World → Prop} {Q : Exit → Act → World → Prop} (hF : Fh p t mk li ch inc a) (hS : Sh k p L0 w1 c u col rest w) (hu1 : 1 ≤ u)
    (hK : ∀ a' w', Fh p t mk li ch inc a' → Sh k p L0 w1 c u col rest w' → gt a' 284 = .bool (((fb rest) == 10)) → K a' w') :
    g48.wp Tryd.prog (Exit.then K Q) a w := by
  obtain ⟨bp, bl, mi, ml, z, L, h1, h24, h25, h26, h19, m1, m2, m3, ho⟩ := hS.here.ex
  have hsm := h1.small
  obtain ⟨c16, f16⟩ := at_ h1.pb 16 h1.at16
  obtain ⟨c17, f17⟩ := at_ h1.pb 17 h1.at17
  obtain ⟨c18, f18⟩ := at_ h1.pb 18 h1.at18
  obtain ⟨c26, f26⟩ := at_ h1.pb 26 h26
  have j2 : (bl : Int) ≤ 541 := by omega
  have j0 : (0 : Int) ≤ (bp : Int) := by omega
  obtain ⟨y0, z0, hok0, hlay0⟩ := peek h1 [] rest (by simpa using hS.here.fro) (by simpa using hS.here.ch) (by simp) (by simp; omega)
  obtain ⟨x0, HX0⟩ : ∃ x0, Hid (fb rest = x0) := ⟨_, rfl⟩
  rw [HX0.out] at hok0 hlay0
  have hx0 := hlay0.hx
  have hj0 : (bp : Int) + 0 < (bl : Int) := by have := hlay0.hi; simp at this; omega
  simp only [List.length_nil, List.length_cons, Nat.zero_add, Nat.add_zero] at hlay0 hx0
  have hj0' : (bp : Int) < (bl : Int) := by omega
  have hcall : ∀ N, Calls Tryd.prog 115 #[.slice (some ⟨k.q, 0, none⟩) bl 1536, .int .i64 bp] (w.drewN N) fun e w' => e = .returned (.bool (x0 == 10)) ∧ w' = w.drewN N := fun N => brk_any k.q bp bl 1536 x0 y0 z0 (by omega) hok0 (w.drewN N) ⟨hlay0.hi, hlay0.hx, hlay0.hy, hlay0.hz⟩
  rw [HX0.out] at hK
  obtain ⟨b1, hb1⟩ : ∃ b, (x0 == 10) = b := ⟨_, rfl⟩
  rw [hb1] at hcall hK
  have HCALL := Lib.hid hcall
  have HS := Lib.hid hS
  have HKK := Lib.hid hK
  rw [lit464 a hF.size hF.defers, hF.s0, hF.s1, hF.s2, hF.s7, hF.s8, hF.s9]
  clear h1 h24 h25 h26 h19 ho hC hF hS hK hcall hok0 hlay0 hx0 hb1
  conv => arg 2; whnf
  try simp only [List.append]
  go_wp2_with fail
  go_quiet ((go_at_call 115; exact Calls.quiet_of_same (HCALL.out _)))
  go_wp2_with fail
  exact HKK.out _ _ ⟨rfl, rfl, rfl, rfl, rfl, rfl, rfl, rfl⟩ (HS.out.drewN _) rfl
set_option maxHeartbeats 32000000 in
set_option maxRecDepth 100000 in
theorem t17 {k : Kn} {p t mk : Nat} {s0 s1 s2 : Int} {L0 : List Value} {w1 : World} (hC : Ch1 k p mk s0 s1 s2 L0 w1) {li : Bool} {ch : Int} {inc c u col : Nat} {rest : List Int} {a : Act} {w : World} {K : Act → World → Prop} {Q : Exit → Act → World → Prop} (hF : Fh p t mk li ch inc a) {e : Nat} (hS : Sh k p L0 w1 c u col rest w) (hu1 : 1 ≤ u) (he : fb rest = (48 + e : Int))
    (hK : ∀ a' w', Fh p t mk li ch e a' → Sh k p L0 w1 c u col rest w' → K a' w') :
    g17.wp Tryd.prog (Exit.then K Q) a w := by
  obtain ⟨bp, bl, mi, ml, z, L, h1, h24, h25, h26, h19, m1, m2, m3, ho⟩ := hS.here.ex
  have hsm := h1.small
  obtain ⟨c16, f16⟩ := at_ h1.pb 16 h1.at16
  obtain ⟨c17, f17⟩ := at_ h1.pb 17 h1.at17
  obtain ⟨c18, f18⟩ := at_ h1.pb 18 h1.at18
  obtain ⟨c26, f26⟩ := at_ h1.pb 26 h26
  have j2 : (bl : Int) ≤ 541 := by omega
  have j0 : (0 : Int) ≤ (bp : Int) := by omega
  obtain ⟨y0, z0, hok0, hlay0⟩ := peek h1 [] rest (by simpa using hS.here.fro) (by simpa using hS.here.ch) (by simp) (by simp; omega)
  obtain ⟨x0, HX0⟩ : ∃ x0, Hid (fb rest = x0) := ⟨_, rfl⟩
  rw [HX0.out] at hok0 hlay0
  have hx0 := hlay0.hx
  have hj0 : (bp : Int) + 0 < (bl : Int) := by have := hlay0.hi; simp at this; omega
  simp only [List.length_nil, List.length_cons, Nat.zero_add, Nat.add_zero] at hlay0 hx0
  have hj0' : (bp : Int) < (bl : Int) := by omega
  have hxe : x0 - 48 = (e : Int) := by have := HX0.out; omega
  have hcall : ∀ N, Calls Tryd.prog 121 #[.slice (some ⟨k.q, 0, none⟩) bl 1536, .int .i64 bp] (w.drewN N) fun e' w' => e' = .returned (.int .i64 (e : Nat)) ∧ w' = w.drewN N := fun N => by
    have := asdigit_any k.q bp bl 1536 x0 (w.drewN N) (by have := hlay0.hi; omega) (by omega) hok0.x0 (by have := hok0.x1; omega) hx0
    rw [hxe] at this
    exact this
  have HCALL := Lib.hid hcall
  have HS := Lib.hid hS
  have HKK := Lib.hid hK
  rw [lit464 a hF.size hF.defers, hF.s0, hF.s1, hF.s2, hF.s7, hF.s8, hF.s9]
  clear h1 h24 h25 h26 h19 ho hC hF hS hK hcall hok0 hlay0 hx0 hxe he
  conv => arg 2; whnf
  try simp only [List.append]
  go_wp2_with fail
  go_quiet ((go_at_call 121; exact Calls.quiet_of_same (HCALL.out _)))
  go_wp2_with fail
  exact HKK.out _ _ ⟨rfl, rfl, rfl, rfl, rfl, rfl, rfl, rfl⟩ (HS.out.drewN _)
set_option maxHeartbeats 32000000 in
set_option maxRecDepth 100000 in
theorem t23 {k : Kn} {p t mk : Nat} {s0 s1 s2 : Int} {L0 : List Value} {w1 : World} (hC : Ch1 k p mk s0 s1 s2 L0 w1) {li : Bool} {ch : Int} {inc c u col : Nat} {rest : List Int} {a : Act} {w : World} {K : Act → World → Prop} {Q : Exit → Act → World → Prop} (hF : Fh p t mk li ch inc a) {e : Nat} (hS : Sh k p L0 w1 c u col rest w) (hu1 : 1 ≤ u) (he : fb rest = (48 + e : Int))
    (hK : ∀ a' w', Fh p t mk li ch e a' → Sh k p L0 w1 c u col rest w' → K a' w') :
    g23.wp Tryd.prog (Exit.then K Q) a w := by
  obtain ⟨bp, bl, mi, ml, z, L, h1, h24, h25, h26, h19, m1, m2, m3, ho⟩ := hS.here.ex
  have hsm := h1.small
  obtain ⟨c16, f16⟩ := at_ h1.pb 16 h1.at16
  obtain ⟨c17, f17⟩ := at_ h1.pb 17 h1.at17
  obtain ⟨c18, f18⟩ := at_ h1.pb 18 h1.at18
  obtain ⟨c26, f26⟩ := at_ h1.pb 26 h26
  have j2 : (bl : Int) ≤ 541 := by omega
  have j0 : (0 : Int) ≤ (bp : Int) := by omega
  obtain ⟨y0, z0, hok0, hlay0⟩ := peek h1 [] rest (by simpa using hS.here.fro) (by simpa using hS.here.ch) (by simp) (by simp; omega)
  obtain ⟨x0, HX0⟩ : ∃ x0, Hid (fb rest = x0) := ⟨_, rfl⟩
  rw [HX0.out] at hok0 hlay0
  have hx0 := hlay0.hx
  have hj0 : (bp : Int) + 0 < (bl : Int) := by have := hlay0.hi; simp at this; omega
  simp only [List.length_nil, List.length_cons, Nat.zero_add, Nat.add_zero] at hlay0 hx0
  have hj0' : (bp : Int) < (bl : Int) := by omega
  have hxe : x0 - 48 = (e : Int) := by have := HX0.out; omega
  have hcall : ∀ N, Calls Tryd.prog 121 #[.slice (some ⟨k.q, 0, none⟩) bl 1536, .int .i64 bp] (w.drewN N) fun e' w' => e' = .returned (.int .i64 (e : Nat)) ∧ w' = w.drewN N := fun N => by
    have := asdigit_any k.q bp bl 1536 x0 (w.drewN N) (by have := hlay0.hi; omega) (by omega) hok0.x0 (by have := hok0.x1; omega) hx0
    rw [hxe] at this
    exact this
  have HCALL := Lib.hid hcall
  have HS := Lib.hid hS
  have HKK := Lib.hid hK
  rw [lit464 a hF.size hF.defers, hF.s0, hF.s1, hF.s2, hF.s7, hF.s8, hF.s9]
  clear h1 h24 h25 h26 h19 ho hC hF hS hK hcall hok0 hlay0 hx0 hxe he
  conv => arg 2; whnf
  try simp only [List.append]
  go_wp2_with fail
  go_quiet ((go_at_call 121; exact Calls.quiet_of_same (HCALL.out _)))
  go_wp2_with fail
  exact HKK.out _ _ ⟨rfl, rfl, rfl, rfl, rfl, rfl, rfl, rfl⟩ (HS.out.drewN _)
end Go.Proofs.YtocbbekciphjgaaDoor.Bs
