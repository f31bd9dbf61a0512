/- QhE, QhF, QgD: parts of the proof, one behind another. -/
import Derived.Test.YtocbbekciphjgaaDoorMh2
import Derived.Test.YtocbbekciphjgaaDoorMh12
import Derived.Test.YtocbbekciphjgaaDoorMh13
/- QhE -/
/- A comment behind a header (yaml_parser_scan_line_comment): the walks. Printed by genQh.py. -/
namespace Go.Proofs.YtocbbekciphjgaaDoor.Cm
open Go.RowKit Go.Proofs.YtocbbekciphjgaaDoor.Rdp Go.Proofs.YtocbbekciphjgaaDoor.Pa Go.Proofs.YtocbbekciphjgaaDoor.Sc Go.Proofs.YtocbbekciphjgaaDoor.Qd Go.Proofs.YtocbbekciphjgaaDoor.Bs
set_option linter.unusedVariables false
set_option linter.unusedSimpArgs false
set_option maxHeartbeats 32000000 in
set_option maxRecDepth 100000 in
theorem s8 {k : Kn} {p tm sm lo : Nat} {L0 : List Value} {w1 : World} (hC : Cc k p tm sm lo w1) {c u col mi : Nat} {rest txt : List Int} {tv v8 : Value} {a : Act} {w : World} {K : Act → World → Prop} {Q : Exit → Act → World → Prop} (hF : Fc p tm sm tv v8 a) (hS : Wc k p tm sm lo L0 w1 c u col mi rest txt tv w)
    (hK : ∀ a' w' u', Fc p tm sm tv v8 a' → Wc k p tm sm lo L0 w1 c u' col mi rest txt tv w' → 1 ≤ u' → K a' w') :
    k8.wp Tryd.prog (Exit.then K Q) a w := by
  have hub0 : Calls Tryd.prog 101 #[.pointer (some ⟨p, 0, none⟩), .int .i64 1] w fun e w' => e = .returned (.bool true) ∧ (∃ u', 1 ≤ u' ∧ AtI k p L0 c u' col mi rest w') ∧ Kp (k.bs p) w w' := hS.here.ub hC.round 1 (by omega) (by omega) (by have := hS.kp.size; have := hC.two; omega)
  have hub := Lib.hid hub0
  clear hub0
  have HS := Lib.hid hS
  have HKK := Lib.hid hK
  have HC := Lib.hid hC
  obtain ⟨bp, bl, ml, z, L, h1, h24, h25, h26, h19, m1, m2, m3, ho⟩ := hS.here.ex
  have hsm := h1.small
  have hmi : (mi : Int) ≤ 1000000 := by have := hS.here.len; have := hS.here.fro.2; omega
  obtain ⟨c16, f16⟩ := at_ h1.pb 16 h1.at16
  obtain ⟨c17, f17⟩ := at_ h1.pb 17 h1.at17
  obtain ⟨c18, f18⟩ := at_ h1.pb 18 h1.at18
  obtain ⟨c24, f24⟩ := at_ h1.pb 24 h24
  have j2 : (bl : Int) ≤ 541 := by omega
  have j0 : (0 : Int) ≤ (bp : Int) := by omega
  by_cases hlt : u < 1
  · have e1 : decide ((u : Int) < 1) = true := by simp; omega
    have e2 : (u : Int) < 1 := by omega
    rw [lit136 a hF.size hF.defers, hF.s0, hF.s3, hF.s5, hF.s6, hF.s7, hF.s8]
    clear h1 h24 h25 h26 h19 ho hC hF hS hK
    conv => arg 2; whnf
    try simp only [List.append]
    go_wp2_with fail
    refine hub.out.mono ?_
    rintro e w' ⟨rfl, ⟨u', hu', hat⟩, hkp⟩
    have hst := HS.out.turn HC.out hkp hat
    have HST := Lib.hid hst
    clear hst hat hkp hub HS c16 f16 c17 f17 c18 f18 c24 f24
    go_wp2_with fail
    exact HKK.out _ _ u' ⟨rfl, rfl, rfl, rfl, rfl, rfl, rfl, rfl⟩ (HST.out.drewN 0) hu'
  · have e1 : decide ((u : Int) < 1) = false := by simp; omega
    have e2 : ¬ ((u : Int) < 1) := by omega
    rw [lit136 a hF.size hF.defers, hF.s0, hF.s3, hF.s5, hF.s6, hF.s7, hF.s8]
    clear h1 h24 h25 h26 h19 ho hC hF hS hK hub
    conv => arg 2; whnf
    try simp only [List.append]
    go_wp2_with fail
    exact HKK.out _ _ u ⟨rfl, rfl, rfl, rfl, rfl, rfl, rfl, rfl⟩ HS.out (by omega)
set_option maxHeartbeats 32000000 in
set_option maxRecDepth 100000 in
theorem sU12 {k : Kn} {p tm sm lo : Nat} {L0 : List Value} {w1 : World} (hC : Cc k p tm sm lo w1) {c u col mi : Nat} {rest txt : List Int} {tv v8 : Value} {a : Act} {w : World} {K : Act → World → Prop} {Q : Exit → Act → World → Prop} (hF : Fc p tm sm tv v8 a) (hS : Wc k p tm sm lo L0 w1 c u col mi rest txt tv w)
    (hK : ∀ a' w' u', Fc p tm sm tv v8 a' → Wc k p tm sm lo L0 w1 c u' col mi rest txt tv w' → 1 ≤ u' → K a' w') :
    kU12.wp Tryd.prog (Exit.then K Q) a w := by
  have hub0 : Calls Tryd.prog 101 #[.pointer (some ⟨p, 0, none⟩), .int .i64 1] w fun e w' => e = .returned (.bool true) ∧ (∃ u', 1 ≤ u' ∧ AtI k p L0 c u' col mi rest w') ∧ Kp (k.bs p) w w' := hS.here.ub hC.round 1 (by omega) (by omega) (by have := hS.kp.size; have := hC.two; omega)
  have hub := Lib.hid hub0
  clear hub0
  have HS := Lib.hid hS
  have HKK := Lib.hid hK
  have HC := Lib.hid hC
  obtain ⟨bp, bl, ml, z, L, h1, h24, h25, h26, h19, m1, m2, m3, ho⟩ := hS.here.ex
  have hsm := h1.small
  have hmi : (mi : Int) ≤ 1000000 := by have := hS.here.len; have := hS.here.fro.2; omega
  obtain ⟨c16, f16⟩ := at_ h1.pb 16 h1.at16
  obtain ⟨c17, f17⟩ := at_ h1.pb 17 h1.at17
  obtain ⟨c18, f18⟩ := at_ h1.pb 18 h1.at18
  obtain ⟨c24, f24⟩ := at_ h1.pb 24 h24
  have j2 : (bl : Int) ≤ 541 := by omega
  have j0 : (0 : Int) ≤ (bp : Int) := by omega
  by_cases hlt : u < 1
  · have e1 : decide ((u : Int) < 1) = true := by simp; omega
    have e2 : (u : Int) < 1 := by omega
    rw [lit136 a hF.size hF.defers, hF.s0, hF.s3, hF.s5, hF.s6, hF.s7, hF.s8]
    clear h1 h24 h25 h26 h19 ho hC hF hS hK
    conv => arg 2; whnf
    try simp only [List.append]
    go_wp2_with fail
    refine hub.out.mono ?_
    rintro e w' ⟨rfl, ⟨u', hu', hat⟩, hkp⟩
    have hst := HS.out.turn HC.out hkp hat
    have HST := Lib.hid hst
    clear hst hat hkp hub HS c16 f16 c17 f17 c18 f18 c24 f24
    go_wp2_with fail
    exact HKK.out _ _ u' ⟨rfl, rfl, rfl, rfl, rfl, rfl, rfl, rfl⟩ (HST.out.drewN 0) hu'
  · have e1 : decide ((u : Int) < 1) = false := by simp; omega
    have e2 : ¬ ((u : Int) < 1) := by omega
    rw [lit136 a hF.size hF.defers, hF.s0, hF.s3, hF.s5, hF.s6, hF.s7, hF.s8]
    clear h1 h24 h25 h26 h19 ho hC hF hS hK hub
    conv => arg 2; whnf
    try simp only [List.append]
    go_wp2_with fail
    exact HKK.out _ _ u ⟨rfl, rfl, rfl, rfl, rfl, rfl, rfl, rfl⟩ HS.out (by omega)
set_option maxHeartbeats 32000000 in
set_option maxRecDepth 100000 in
theorem s9 {k : Kn} {p tm sm lo : Nat} {L0 : List Value} {w1 : World} (hC : Cc k p tm sm lo w1) {c u col mi : Nat} {rest txt : List Int} {tv v8 : Value} {a : Act} {w : World} {K : Act → World → Prop} {Q : Exit → Act → World → Prop} (hF : Fc p tm sm tv v8 a) (hS : Wc k p tm sm lo L0 w1 c u col mi rest txt tv w) (hu1 : 1 ≤ u) (hb : fb rest = 35)
    (hK : ∀ a' w', Fc p tm sm tv v8 a' → Wc k p tm sm lo L0 w1 c u col mi rest txt tv w' → K a' w') :
    k9.wp Tryd.prog (Exit.then K Q) a w := by
  obtain ⟨bp, bl, ml, z, L, h1, h24, h25, h26, h19, m1, m2, m3, ho⟩ := hS.here.ex
  have hsm := h1.small
  have hmi : (mi : Int) ≤ 1000000 := by have := hS.here.len; have := hS.here.fro.2; omega
  obtain ⟨c16, f16⟩ := at_ h1.pb 16 h1.at16
  obtain ⟨c17, f17⟩ := at_ h1.pb 17 h1.at17
  obtain ⟨c18, f18⟩ := at_ h1.pb 18 h1.at18
  obtain ⟨c24, f24⟩ := at_ h1.pb 24 h24
  have j2 : (bl : Int) ≤ 541 := by omega
  have j0 : (0 : Int) ≤ (bp : Int) := by omega
  obtain ⟨y0, z0, hok0, hlay0⟩ := peek h1 [] rest (by simpa using hS.here.fro) (by simpa using hS.here.ch) (by simp) (by simp; omega)
  obtain ⟨x0, HX0⟩ : ∃ x0, Hid (fb rest = x0) := ⟨_, rfl⟩
  rw [HX0.out] at hok0 hlay0
  have hx0 := hlay0.hx
  have hj0 : (bp : Int) + 0 < (bl : Int) := by have := hlay0.hi; simp at this; omega
  simp only [List.length_nil, List.length_cons, Nat.zero_add, Nat.add_zero] at hlay0 hx0
  have hj0' : (bp : Int) < (bl : Int) := by omega
  obtain rfl : x0 = 35 := HX0.out.symm.trans hb
  have hcall : ∀ N, Calls Tryd.prog 102 #[.slice (some ⟨k.q, 0, none⟩) bl 1536, .int .i64 bp] (w.drewN N) fun e w' => e = .returned (.bool false) ∧ w' = w.drewN N := fun N => blank_any k.q bp bl 1536 35 (w.drewN N) (by have := hlay0.hi; omega) (by omega) hx0
  have HCALL := Lib.hid hcall
  have HS := Lib.hid hS
  have HKK := Lib.hid hK
  rw [lit136 a hF.size hF.defers, hF.s0, hF.s3, hF.s5, hF.s6, hF.s7, hF.s8]
  clear h1 h24 h25 h26 h19 ho hC hF hS hK hcall hok0 hlay0 hx0
  conv => arg 2; whnf
  try simp only [List.append]
  go_wp2_with fail
  go_quiet ((go_at_call 102; exact Calls.quiet_of_same (HCALL.out _)))
  go_wp2_with fail
  exact HKK.out _ _ ⟨rfl, rfl, rfl, rfl, rfl, rfl, rfl, rfl⟩ (HS.out.drewN _)
set_option maxHeartbeats 32000000 in
set_option maxRecDepth 100000 in
theorem s10 {k : Kn} {p tm sm lo : Nat} {L0 : List Value} {w1 : World} (hC : Cc k p tm sm lo w1) {c u col mi : Nat} {rest txt : List Int} {tv v8 : Value} {a : Act} {w : World} {K : Act → World → Prop} {Q : Exit → Act → World → Prop} (hF : Fc p tm sm tv v8 a) (hS : Wc k p tm sm lo L0 w1 c u col mi rest txt tv w) (hu1 : 1 ≤ u) (hb : fb rest = 35)
    (hK : ∀ a' w', Fc p tm sm tv v8 a' → Wc k p tm sm lo L0 w1 c u col mi rest txt tv w' → gt a' 55 = .bool true → K a' w') :
    k10.wp Tryd.prog (Exit.then K Q) a w := by
  obtain ⟨bp, bl, ml, z, L, h1, h24, h25, h26, h19, m1, m2, m3, ho⟩ := hS.here.ex
  have hsm := h1.small
  have hmi : (mi : Int) ≤ 1000000 := by have := hS.here.len; have := hS.here.fro.2; omega
  obtain ⟨c16, f16⟩ := at_ h1.pb 16 h1.at16
  obtain ⟨c17, f17⟩ := at_ h1.pb 17 h1.at17
  obtain ⟨c18, f18⟩ := at_ h1.pb 18 h1.at18
  obtain ⟨c24, f24⟩ := at_ h1.pb 24 h24
  have j2 : (bl : Int) ≤ 541 := by omega
  have j0 : (0 : Int) ≤ (bp : Int) := by omega
  obtain ⟨y0, z0, hok0, hlay0⟩ := peek h1 [] rest (by simpa using hS.here.fro) (by simpa using hS.here.ch) (by simp) (by simp; omega)
  obtain ⟨x0, HX0⟩ : ∃ x0, Hid (fb rest = x0) := ⟨_, rfl⟩
  rw [HX0.out] at hok0 hlay0
  have hx0 := hlay0.hx
  have hj0 : (bp : Int) + 0 < (bl : Int) := by have := hlay0.hi; simp at this; omega
  simp only [List.length_nil, List.length_cons, Nat.zero_add, Nat.add_zero] at hlay0 hx0
  have hj0' : (bp : Int) < (bl : Int) := by omega
  obtain rfl : x0 = 35 := HX0.out.symm.trans hb
  have HS := Lib.hid hS
  have HKK := Lib.hid hK
  rw [lit136 a hF.size hF.defers, hF.s0, hF.s3, hF.s5, hF.s6, hF.s7, hF.s8]
  clear h1 h24 h25 h26 h19 ho hC hF hS hK hok0 hlay0
  conv => arg 2; whnf
  try simp only [List.append]
  go_wp2_with fail
  go_quiet (fail)
  go_wp2_with fail
  exact HKK.out _ _ ⟨rfl, rfl, rfl, rfl, rfl, rfl, rfl, rfl⟩ (HS.out.drewN _) rfl
set_option maxHeartbeats 32000000 in
set_option maxRecDepth 100000 in
theorem s11 {k : Kn} {p tm sm lo : Nat} {L0 : List Value} {w1 : World} (hC : Cc k p tm sm lo w1) {c u col mi : Nat} {rest txt : List Int} {tv v8 : Value} {a : Act} {w : World} {K : Act → World → Prop} {Q : Exit → Act → World → Prop} (hF : Fc p tm sm tv v8 a) (hS : Wc k p tm sm lo L0 w1 c u col mi rest txt tv w)
    (hK : ∀ a', Fc p tm sm tv (.int .i64 (mi : Nat)) a' → K a' w) :
    k11.wp Tryd.prog (Exit.then K Q) a w := by
  obtain ⟨bp, bl, ml, z, L, h1, h24, h25, h26, h19, m1, m2, m3, ho⟩ := hS.here.ex
  have hsm := h1.small
  have hmi : (mi : Int) ≤ 1000000 := by have := hS.here.len; have := hS.here.fro.2; omega
  obtain ⟨c16, f16⟩ := at_ h1.pb 16 h1.at16
  obtain ⟨c17, f17⟩ := at_ h1.pb 17 h1.at17
  obtain ⟨c18, f18⟩ := at_ h1.pb 18 h1.at18
  obtain ⟨c24, f24⟩ := at_ h1.pb 24 h24
  have j2 : (bl : Int) ≤ 541 := by omega
  have j0 : (0 : Int) ≤ (bp : Int) := by omega
  have HKK := Lib.hid hK
  rw [lit136 a hF.size hF.defers, hF.s0, hF.s3, hF.s5, hF.s6, hF.s7, hF.s8]
  clear h1 h24 h25 h26 h19 ho hC hF hS hK
  conv => arg 2; whnf
  try simp only [List.append]
  go_wp2_with fail
  exact HKK.out _ ⟨rfl, rfl, rfl, rfl, rfl, rfl, rfl, rfl⟩
set_option maxHeartbeats 32000000 in
set_option maxRecDepth 100000 in
theorem s14 {k : Kn} {p tm sm lo : Nat} {L0 : List Value} {w1 : World} (hC : Cc k p tm sm lo w1) {c u col mi : Nat} {rest txt : List Int} {tv v8 : Value} {a : Act} {w : World} {K : Act → World → Prop} {Q : Exit → Act → World → Prop} (hF : Fc p tm sm tv v8 a) (hS : Wc k p tm sm lo L0 w1 c u col mi rest txt tv w) (hu1 : 1 ≤ u)
    (hK : ∀ a' w', Fc p tm sm tv v8 a' → Wc k p tm sm lo L0 w1 c u col mi rest txt tv w' → gt a' 81 = .bool (isBrz (fb rest)) → K a' w') :
    k14.wp Tryd.prog (Exit.then K Q) a w := by
  obtain ⟨bp, bl, ml, z, L, h1, h24, h25, h26, h19, m1, m2, m3, ho⟩ := hS.here.ex
  have hsm := h1.small
  have hmi : (mi : Int) ≤ 1000000 := by have := hS.here.len; have := hS.here.fro.2; omega
  obtain ⟨c16, f16⟩ := at_ h1.pb 16 h1.at16
  obtain ⟨c17, f17⟩ := at_ h1.pb 17 h1.at17
  obtain ⟨c18, f18⟩ := at_ h1.pb 18 h1.at18
  obtain ⟨c24, f24⟩ := at_ h1.pb 24 h24
  have j2 : (bl : Int) ≤ 541 := by omega
  have j0 : (0 : Int) ≤ (bp : Int) := by omega
  obtain ⟨y0, z0, hok0, hlay0⟩ := peek h1 [] rest (by simpa using hS.here.fro) (by simpa using hS.here.ch) (by simp) (by simp; omega)
  obtain ⟨x0, HX0⟩ : ∃ x0, Hid (fb rest = x0) := ⟨_, rfl⟩
  rw [HX0.out] at hok0 hlay0
  have hx0 := hlay0.hx
  have hj0 : (bp : Int) + 0 < (bl : Int) := by have := hlay0.hi; simp at this; omega
  simp only [List.length_nil, List.length_cons, Nat.zero_add, Nat.add_zero] at hlay0 hx0
  have hj0' : (bp : Int) < (bl : Int) := by omega
  have hcall : ∀ N, Calls Tryd.prog 123 #[.slice (some ⟨k.q, 0, none⟩) bl 1536, .int .i64 bp] (w.drewN N) fun e w' => e = .returned (.bool (isBrz x0)) ∧ w' = w.drewN N := fun N => brz_any k.q bp bl 1536 x0 y0 z0 (by omega) hok0 (w.drewN N) ⟨hlay0.hi, hlay0.hx, hlay0.hy, hlay0.hz⟩
  rw [HX0.out] at hK
  obtain ⟨b1, hb1⟩ : ∃ b, isBrz x0 = b := ⟨_, rfl⟩
  rw [hb1] at hcall hK
  have HCALL := Lib.hid hcall
  have HS := Lib.hid hS
  have HKK := Lib.hid hK
  rw [lit136 a hF.size hF.defers, hF.s0, hF.s3, hF.s5, hF.s6, hF.s7, hF.s8]
  clear h1 h24 h25 h26 h19 ho hC hF hS hK hcall hok0 hlay0 hx0 hb1
  conv => arg 2; whnf
  try simp only [List.append]
  go_wp2_with fail
  go_quiet ((go_at_call 123; exact Calls.quiet_of_same (HCALL.out _)))
  go_wp2_with fail
  exact HKK.out _ _ ⟨rfl, rfl, rfl, rfl, rfl, rfl, rfl, rfl⟩ (HS.out.drewN _) rfl
set_option maxHeartbeats 32000000 in
set_option maxRecDepth 100000 in
theorem sT {k : Kn} {p tm sm lo : Nat} {L0 : List Value} {w1 : World} (hC : Cc k p tm sm lo w1) {c u col mi : Nat} {rest txt : List Int} {tv : Value} {sn : Nat} {a : Act} {w : World} {K : Act → World → Prop} {Q : Exit → Act → World → Prop} (hF : Fc p tm sm tv (.int .i64 (sn : Nat)) a) (hS : Wc k p tm sm lo L0 w1 c u col mi rest txt tv w) (hsn : sn ≤ mi)
    (hX : ∀ a', Fc p tm sm tv (.int .i64 (sn : Nat)) a' → Q (.exit 2) a' w) :
    kT.wp Tryd.prog (Exit.then K Q) a w := by
  obtain ⟨bp, bl, ml, z, L, h1, h24, h25, h26, h19, m1, m2, m3, ho⟩ := hS.here.ex
  have hsm := h1.small
  have hmi : (mi : Int) ≤ 1000000 := by have := hS.here.len; have := hS.here.fro.2; omega
  obtain ⟨c16, f16⟩ := at_ h1.pb 16 h1.at16
  obtain ⟨c17, f17⟩ := at_ h1.pb 17 h1.at17
  obtain ⟨c18, f18⟩ := at_ h1.pb 18 h1.at18
  obtain ⟨c24, f24⟩ := at_ h1.pb 24 h24
  have j2 : (bl : Int) ≤ 541 := by omega
  have j0 : (0 : Int) ≤ (bp : Int) := by omega
  have e1 : decide ((sn : Int) ≤ (mi : Int)) = true := by simp; omega
  have e2 : (sn : Int) ≤ (mi : Int) := by omega
  have HKK := Lib.hid hX
  rw [lit136 a hF.size hF.defers, hF.s0, hF.s3, hF.s5, hF.s6, hF.s7, hF.s8]
  clear h1 h24 h25 h26 h19 ho hC hF hS hX
  conv => arg 2; whnf
  try simp only [List.append]
  go_wp2_with fail
  exact HKK.out _ ⟨rfl, rfl, rfl, rfl, rfl, rfl, rfl, rfl⟩
set_option maxHeartbeats 32000000 in
set_option maxRecDepth 100000 in
theorem s19 {k : Kn} {p tm sm lo : Nat} {L0 : List Value} {w1 : World} (hC : Cc k p tm sm lo w1) {c u col mi : Nat} {rest txt : List Int} {tv : Value} {sn : Nat} {a : Act} {w : World} {K : Act → World → Prop} {Q : Exit → Act → World → Prop} (hF : Fc p tm sm tv (.int .i64 (sn : Nat)) a) (hS : Wc k p tm sm lo L0 w1 c u col mi rest txt tv w) (hsn : sn ≤ mi)
    (hK : ∀ a', Fc p tm sm tv (.int .i64 (sn : Nat)) a' → gt a' 107 = .bool true → K a' w) :
    k19.wp Tryd.prog (Exit.then K Q) a w := by
  obtain ⟨bp, bl, ml, z, L, h1, h24, h25, h26, h19, m1, m2, m3, ho⟩ := hS.here.ex
  have hsm := h1.small
  have hmi : (mi : Int) ≤ 1000000 := by have := hS.here.len; have := hS.here.fro.2; omega
  obtain ⟨c16, f16⟩ := at_ h1.pb 16 h1.at16
  obtain ⟨c17, f17⟩ := at_ h1.pb 17 h1.at17
  obtain ⟨c18, f18⟩ := at_ h1.pb 18 h1.at18
  obtain ⟨c24, f24⟩ := at_ h1.pb 24 h24
  have j2 : (bl : Int) ≤ 541 := by omega
  have j0 : (0 : Int) ≤ (bp : Int) := by omega
  have e1 : decide ((sn : Int) ≤ (mi : Int)) = true := by simp; omega
  have e2 : (sn : Int) ≤ (mi : Int) := by omega
  have HKK := Lib.hid hK
  rw [lit136 a hF.size hF.defers, hF.s0, hF.s3, hF.s5, hF.s6, hF.s7, hF.s8]
  clear h1 h24 h25 h26 h19 ho hC hF hS hK
  conv => arg 2; whnf
  try simp only [List.append]
  go_wp2_with fail
  exact HKK.out _ ⟨rfl, rfl, rfl, rfl, rfl, rfl, rfl, rfl⟩ rfl
set_option maxHeartbeats 32000000 in
set_option maxRecDepth 100000 in
theorem s20 {k : Kn} {p tm sm lo : Nat} {L0 : List Value} {w1 : World} (hC : Cc k p tm sm lo w1) {c u col mi : Nat} {rest txt : List Int} {tv v8 : Value} {a : Act} {w : World} {K : Act → World → Prop} {Q : Exit → Act → World → Prop} (hF : Fc p tm sm tv v8 a) (hS : Wc k p tm sm lo L0 w1 c u col mi rest txt tv w)
    (hK : ∀ a' w', Fc p tm sm tv v8 a' → Wc k p tm sm lo L0 w1 c u col mi rest txt tv w' → K a' w') :
    k20.wp Tryd.prog (Exit.then K Q) a w := by
  obtain ⟨bp, bl, ml, z, L, h1, h24, h25, h26, h19, m1, m2, m3, ho⟩ := hS.here.ex
  have hsm := h1.small
  have hmi : (mi : Int) ≤ 1000000 := by have := hS.here.len; have := hS.here.fro.2; omega
  obtain ⟨c16, f16⟩ := at_ h1.pb 16 h1.at16
  obtain ⟨c17, f17⟩ := at_ h1.pb 17 h1.at17
  obtain ⟨c18, f18⟩ := at_ h1.pb 18 h1.at18
  obtain ⟨c24, f24⟩ := at_ h1.pb 24 h24
  have j2 : (bl : Int) ≤ 541 := by omega
  have j0 : (0 : Int) ≤ (bp : Int) := by omega
  obtain ⟨c25, f25⟩ := at_ h1.pb 25 h25
  obtain ⟨c26, f26⟩ := at_ h1.pb 26 h26
  obtain ⟨s0, s1, s2, hs⟩ := hS.smb
  obtain ⟨cc0, ff0⟩ := at_ hs 0 rfl
  obtain ⟨cc1, ff1⟩ := at_ hs 1 rfl
  obtain ⟨cc2, ff2⟩ := at_ hs 2 rfl
  have HN := Lib.hid (hS.noted hC (mi : Nat) (ml : Nat) (col : Nat))
  have HS := Lib.hid hS
  have HKK := Lib.hid hK
  obtain ⟨va, vc, hve⟩ := hS.row.slice
  obtain ⟨tl, htl⟩ : ∃ tl, txt.length = tl := ⟨_, rfl⟩
  rw [htl] at hve
  by_cases h0 : tl = 0
  · have e1 : ((tl : Int) == 0) = true := by simp [h0]
    rw [lit136 a hF.size hF.defers, hF.s0, hF.s3, hF.s5, hF.s6, hF.s7, hF.s8]
    clear h1 h24 h25 h26 h19 ho hC hF hS hK hs h0 htl
    subst hve
    conv => arg 2; whnf
    try simp only [List.append]
    go_wp2_with fail
    exact HKK.out _ _ ⟨rfl, rfl, rfl, rfl, rfl, rfl, rfl, rfl⟩ HN.out
  · have e1 : ((tl : Int) == 0) = false := by simp [h0]
    rw [lit136 a hF.size hF.defers, hF.s0, hF.s3, hF.s5, hF.s6, hF.s7, hF.s8]
    clear h1 h24 h25 h26 h19 ho hC hF hS hK hs h0 htl
    subst hve
    conv => arg 2; whnf
    try simp only [List.append]
    go_wp2_with fail
    exact HKK.out _ _ ⟨rfl, rfl, rfl, rfl, rfl, rfl, rfl, rfl⟩ HS.out
set_option maxHeartbeats 32000000 in
set_option maxRecDepth 100000 in
theorem s22 {k : Kn} {p tm sm lo : Nat} {L0 : List Value} {w1 : World} (hC : Cc k p tm sm lo w1) {c u col mi : Nat} {r txt : List Int} {tv v8 : Value} {a : Act} {w : World} {K : Act → World → Prop} {Q : Exit → Act → World → Prop} (hF : Fc p tm sm tv v8 a) {x : Int} (hS : Wc k p tm sm lo L0 w1 c (u + 1) col mi (x :: r) txt tv w)
    (hK : ∀ a' w' v', Fc p tm sm v' v8 a' → Wc k p tm sm lo L0 w1 (c + (u8 x).length) u (col + 1) (mi + 1) r (txt ++ u8 x) v' w' → K a' w') :
    k22.wp Tryd.prog (Exit.then K Q) a w := by
  have hcl := hS.here.fro.2
  have hlen := hS.here.len
  have hsz := hS.sz
  have hsk := Lib.hid (hS.here.read hS.row (by omega) hS.low (fun g hg => hC.far g (by have := hC.t1; have := hC.t2; omega)))
  have HS := Lib.hid hS
  have HKK := Lib.hid hK
  have HC := Lib.hid hC
  rw [lit136 a hF.size hF.defers, hF.s0, hF.s3, hF.s5, hF.s6, hF.s7, hF.s8]
  clear hC hF hS hK
  conv => arg 2; whnf
  go_wp2_with fail
  refine hsk.out.mono ?_
  rintro e w' ⟨v', rfl, hat, hgv⟩
  have HST := Lib.hid (HS.out.readto HC.out hat hgv)
  clear hat hgv hsk HS
  go_wp2_with fail
  exact HKK.out _ _ v' ⟨rfl, rfl, rfl, rfl, rfl, rfl, rfl, rfl⟩ HST.out
set_option maxHeartbeats 32000000 in
set_option maxRecDepth 100000 in
theorem s24 {k : Kn} {p tm sm lo : Nat} {L0 : List Value} {w1 : World} (hC : Cc k p tm sm lo w1) {c u col mi : Nat} {rest txt : List Int} {tv v8 : Value} {a : Act} {w : World} {K : Act → World → Prop} {Q : Exit → Act → World → Prop} (hF : Fc p tm sm tv v8 a) (hS : Wc k p tm sm lo L0 w1 c u col mi rest txt tv w)
    (hK : ∀ a', Fc p tm sm tv v8 a' → gt a' 122 = .bool (decide (0 < txt.length)) → K a' w) :
    k24.wp Tryd.prog (Exit.then K Q) a w := by
  obtain ⟨va, vc, hve⟩ := hS.row.slice
  obtain ⟨tl, htl⟩ : ∃ tl, txt.length = tl := ⟨_, rfl⟩
  rw [htl] at hve hK
  obtain ⟨b, hb⟩ : ∃ b, decide (0 < tl) = b := ⟨_, rfl⟩
  rw [hb] at hK
  have e1 : decide ((0 : Int) < (tl : Int)) = b := by rw [← hb]; exact decide_eq_decide.2 (by omega)
  have HKK := Lib.hid hK
  rw [lit136 a hF.size hF.defers, hF.s0, hF.s3, hF.s5, hF.s6, hF.s7, hF.s8]
  clear hC hF hS hK htl hb
  subst hve
  conv => arg 2; whnf
  go_wp2_with fail
  first
    | exact HKK.out _ ⟨rfl, rfl, rfl, rfl, rfl, rfl, rfl, rfl⟩ rfl
    | (cases b <;> simp at e1 <;> exact HKK.out _ ⟨rfl, rfl, rfl, rfl, rfl, rfl, rfl, rfl⟩ (by simp [gt, e1]))
set_option maxHeartbeats 32000000 in
set_option maxRecDepth 100000 in
theorem h0t {p : Nat} {a : Act} {w : World} {K : Act → World → Prop} {Q : Exit → Act → World → Prop} (hz : a.tmps.size = 136) (hdf : a.defers = []) (h0 : gt a 0 = .pointer (some ⟨p, 0, none⟩)) {s0 s1 s2 : Int} (h1 : gt a 1 = .agg #[.int .i64 s0, .int .i64 s1, .int .i64 s2])
    (hK : ∀ a', a'.tmps.size = 136 → a'.defers = [] → gt a' 0 = .pointer (some ⟨p, 0, none⟩) → gt a' 3 = .pointer (some ⟨w.heap.size, 0, none⟩) → K a' (w.alloc (.cells #[.int .i64 s0, .int .i64 s1, .int .i64 s2] 74))) :
    k0.wp Tryd.prog (Exit.then K Q) a w := by
  have HKK := Lib.hid hK
  rw [lit136 a hz hdf, h0, h1]
  clear hK h0 h1 hz hdf
  conv => arg 2; whnf
  go_wp2_with fail
  exact HKK.out _ rfl rfl rfl rfl
set_option maxHeartbeats 32000000 in
set_option maxRecDepth 100000 in
theorem hNt {p : Nat} {a : Act} {w : World} {K : Act → World → Prop} {Q : Exit → Act → World → Prop} (hz : a.tmps.size = 136) (hdf : a.defers = []) (h0 : gt a 0 = .pointer (some ⟨p, 0, none⟩)) {tm : Nat} (h3 : gt a 3 = .pointer (some ⟨tm, 0, none⟩)) {k : Kn} {L0 : List Value} {c u col : Nat} {rest : List Int} (hA : At k p L0 c u col rest w)
    (hK : ∀ a', a'.tmps.size = 136 → a'.defers = [] → gt a' 0 = .pointer (some ⟨p, 0, none⟩) → gt a' 3 = .pointer (some ⟨tm, 0, none⟩) → K a' w) (hX : ∀ a', a'.defers = [] → gt a' 4 = .bool true → Q .ret a' w) :
    kN.wp Tryd.prog (Exit.then K Q) a w := by
  obtain ⟨bp, bl, mi, ml, z, L, g1, h24, h25, h26, h19, m1, m2, m3, ho⟩ := hA.ex
  obtain ⟨c19, f19⟩ := at_ g1.pb 19 h19
  have HKK := Lib.hid hK
  have HXX := Lib.hid hX
  by_cases hz0 : 0 < z
  · have e1 : decide (0 < z) = true := by simpa using hz0
    rw [lit136 a hz hdf, h0, h3]
    clear hK hX h0 h3 hz hdf g1 h24 h25 h26 h19 ho hA
    conv => arg 2; whnf
    go_wp2_with fail
    exact HXX.out _ rfl rfl
  · have e1 : decide (0 < z) = false := by simpa using hz0
    rw [lit136 a hz hdf, h0, h3]
    clear hK hX h0 h3 hz hdf g1 h24 h25 h26 h19 ho hA
    conv => arg 2; whnf
    go_wp2_with fail
    exact HKK.out _ rfl rfl rfl rfl
set_option maxHeartbeats 32000000 in
set_option maxRecDepth 100000 in
theorem h3t {p : Nat} {a : Act} {w : World} {K : Act → World → Prop} {Q : Exit → Act → World → Prop} (hz : a.tmps.size = 136) (hdf : a.defers = []) (h0 : gt a 0 = .pointer (some ⟨p, 0, none⟩)) {tm : Nat} (h3 : gt a 3 = .pointer (some ⟨tm, 0, none⟩))
    (hK : ∀ a', a'.tmps.size = 136 → a'.defers = [] → gt a' 0 = .pointer (some ⟨p, 0, none⟩) → gt a' 3 = .pointer (some ⟨tm, 0, none⟩) → gt a' 5 = .pointer (some ⟨w.heap.size, 0, none⟩) → K a' (w.alloc (.cells #[.int .i64 0, .int .i64 0, .int .i64 0] 74))) :
    k3.wp Tryd.prog (Exit.then K Q) a w := by
  have HKK := Lib.hid hK
  rw [lit136 a hz hdf, h0, h3]
  clear hK h0 h3 hz hdf
  conv => arg 2; whnf
  go_wp2_with fail
  exact HKK.out _ rfl rfl rfl rfl rfl
set_option maxHeartbeats 32000000 in
set_option maxRecDepth 100000 in
theorem h4t {p : Nat} {a : Act} {w : World} {K : Act → World → Prop} {Q : Exit → Act → World → Prop} (hz : a.tmps.size = 136) (hdf : a.defers = []) (h0 : gt a 0 = .pointer (some ⟨p, 0, none⟩)) {tm sm : Nat} (h3 : gt a 3 = .pointer (some ⟨tm, 0, none⟩)) (h5 : gt a 5 = .pointer (some ⟨sm, 0, none⟩))
    (hK : ∀ a', a'.tmps.size = 136 → a'.defers = [] → gt a' 0 = .pointer (some ⟨p, 0, none⟩) → gt a' 3 = .pointer (some ⟨tm, 0, none⟩) → gt a' 5 = .pointer (some ⟨sm, 0, none⟩) → gt a' 6 = .slice none 0 0 → K a' w) :
    k4.wp Tryd.prog (Exit.then K Q) a w := by
  have HKK := Lib.hid hK
  rw [lit136 a hz hdf, h0, h3, h5]
  clear hK h0 h3 h5 hz hdf
  conv => arg 2; whnf
  go_wp2_with fail
  exact HKK.out _ rfl rfl rfl rfl rfl rfl
set_option maxHeartbeats 32000000 in
set_option maxRecDepth 100000 in
theorem h5t {p : Nat} {a : Act} {w : World} {K : Act → World → Prop} {Q : Exit → Act → World → Prop} (hz : a.tmps.size = 136) (hdf : a.defers = []) (h0 : gt a 0 = .pointer (some ⟨p, 0, none⟩)) {tm sm : Nat} (h3 : gt a 3 = .pointer (some ⟨tm, 0, none⟩)) (h5 : gt a 5 = .pointer (some ⟨sm, 0, none⟩)) (h6 : gt a 6 = .slice none 0 0)
    (hK : ∀ a' v8, Fc p tm sm (.slice none 0 0) v8 a' → K a' w) :
    k5.wp Tryd.prog (Exit.then K Q) a w := by
  have HKK := Lib.hid hK
  rw [lit136 a hz hdf, h0, h3, h5, h6]
  clear hK h0 h3 h5 h6 hz hdf
  conv => arg 2; whnf
  go_wp2_with fail
  exact HKK.out _ _ ⟨rfl, rfl, rfl, rfl, rfl, rfl, rfl, rfl⟩
set_option maxHeartbeats 32000000 in
set_option maxRecDepth 100000 in
theorem h6t {p tm sm : Nat} {tv v8 : Value} {a : Act} {w : World} {K : Act → World → Prop} {Q : Exit → Act → World → Prop} (hF : Fc p tm sm tv v8 a)
    (hK : ∀ a', Fc p tm sm tv v8 a' → K a' w) :
    k6.wp Tryd.prog (Exit.then K Q) a w := by
  have HKK := Lib.hid hK
  rw [lit136 a hF.size hF.defers, hF.s0, hF.s3, hF.s5, hF.s6, hF.s7, hF.s8]
  clear hK hF
  conv => arg 2; whnf
  go_wp2_with fail
  exact HKK.out _ ⟨rfl, rfl, rfl, rfl, rfl, rfl, rfl, rfl⟩
set_option maxHeartbeats 32000000 in
set_option maxRecDepth 100000 in
theorem h26t {a : Act} {w : World} {K : Act → World → Prop} {Q : Exit → Act → World → Prop} (hz : a.tmps.size = 136) (hdf : a.defers = [])
    (hX : ∀ a', a'.defers = [] → gt a' 4 = .bool true → Q .ret a' w) :
    k26.wp Tryd.prog (Exit.then K Q) a w := by
  have HKK := Lib.hid hX
  rw [lit136 a hz hdf]
  clear hX hz hdf
  conv => arg 2; whnf
  go_wp2_with fail
  exact HKK.out _ rfl rfl
end Go.Proofs.YtocbbekciphjgaaDoor.Cm
/- QhF -/
/- A comment behind a header (yaml_parser_scan_line_comment): the contract. Printed by genQh.py. -/
namespace Go.Proofs.YtocbbekciphjgaaDoor.Cm
open Go.RowKit Go.Proofs.YtocbbekciphjgaaDoor.Rdp Go.Proofs.YtocbbekciphjgaaDoor.Pa Go.Proofs.YtocbbekciphjgaaDoor.Sc Go.Proofs.YtocbbekciphjgaaDoor.Qd Go.Proofs.YtocbbekciphjgaaDoor.Bs
set_option linter.unusedVariables false
set_option linter.unusedSimpArgs false
theorem isBrz_of {x : Int} {r : List Int} (hx : Ch x) (h : x ≠ 10) : isBrz (fb (x :: r)) = false := by
  by_cases hl : x < 128
  · rw [fb_small hl]
    have := hx.range
    exact isBrz_no h (by omega)
  · have := fb_great (r := r) hx (by omega)
    exact isBrz_no (by omega) (by omega)
/-- In the loop over the comment's characters. -/
def Xc (k : Kn) (p tm sm lo : Nat) (L0 : List Value) (w1 : World) (sn : Nat) (r : List Int) (c : Nat) (a : Act) (w : World) : Prop :=
  ∃ u col mi row txt tv, Fc p tm sm tv (.int .i64 (sn : Nat)) a ∧ Wc k p tm sm lo L0 w1 c u col mi (row ++ 10 :: r) txt tv w ∧ sn ≤ mi ∧ (∀ y ∈ row, y ≠ 10)
/-- Where it ends. -/
def Ec (k : Kn) (p tm sm lo : Nat) (L0 : List Value) (w1 : World) (r : List Int) (a : Act) (w : World) : Prop :=
  ∃ c u col mi txt tv v8, Fc p tm sm tv v8 a ∧ Wc k p tm sm lo L0 w1 c u col mi (10 :: r) txt tv w ∧ 1 ≤ u
theorem xround {k : Kn} {p tm sm lo : Nat} {L0 : List Value} {w1 : World} (hC : Cc k p tm sm lo w1) {sn c : Nat} {r : List Int} {a : Act} {w : World} {K : Act → World → Prop} {Q : Exit → Act → World → Prop} (h : Xc k p tm sm lo L0 w1 sn r c a w)
    (hK : ∀ a' w' c', c < c' → c' ≤ k.T.length → Xc k p tm sm lo L0 w1 sn r c' a' w' → K a' w')
    (hX : ∀ a' w', Ec k p tm sm lo L0 w1 r a' w' → Q (.exit 2) a' w') :
    (Code.block 3 kX).wp Tryd.prog (Exit.then K Q) a w := by
  obtain ⟨u, col, mi, row, txt, tv, hF, hS, hsn, hrow⟩ := h
  refine wp_block ?_
  rw [then_block, kX_eq]
  have hq2 : ∀ a w, Q (.exit 2) a w → Exit.inBlock 3 (Exit.then K Q) (.exit 2) a w := fun _ _ h => h
  refine wp_seq (sU12 hC hF hS fun a1 w2 u1 hF1 hS1 hu1 => ?_)
  refine wp_seq (s14 hC hF1 hS1 hu1 fun a2 w3 hF2 hS2 e81 => ?_)
  cases row with
  | nil =>
    refine wp_cond_split (t := true) (show a2.tmps.getD 81 undef = _ from e81) (fun _ => ?_) (fun h => by cases h)
    refine wp_seq (sT hC hF2 hS2 hsn fun a3 hF3 => ?_)
    exact hq2 _ _ (hX a3 w3 ⟨c, u1, col, mi, txt, tv, _, hF3, hS2, hu1⟩)
  | cons x row =>
    have hb : isBrz (fb (x :: row ++ 10 :: r)) = false := isBrz_of (hS2.here.ch x (by simp)) (hrow x (by simp))
    rw [hb] at e81
    refine wp_cond_split (t := false) (show a2.tmps.getD 81 undef = _ from e81) (fun h => by cases h) (fun _ => ?_)
    refine wp_seq (s19 hC hF2 hS2 hsn fun a3 hF3 e107 => ?_)
    refine wp_cond_split (t := true) (show a3.tmps.getD 107 undef = _ from e107) (fun _ => ?_) (fun h => by cases h)
    refine wp_seq (s20 hC hF3 hS2 fun a4 w4 hF4 hS4 => ?_)
    obtain ⟨u0, rfl⟩ : ∃ u0, u1 = u0 + 1 := ⟨u1 - 1, by omega⟩
    refine s22 hC hF4 (r := row ++ 10 :: r) hS4 fun a5 w5 v5 hF5 hS5 => ?_
    have hpos := u8_pos x
    exact hK a5 w5 _ (by omega) hS5.here.fro.2 ⟨u0, col + 1, mi + 1, row, _, v5, hF5, hS5, by omega, fun y hy => hrow y (by simp [hy])⟩
theorem xloop {k : Kn} {p tm sm lo : Nat} {L0 : List Value} {w1 : World} (hC : Cc k p tm sm lo w1) {sn c : Nat} {r : List Int} {a : Act} {w : World} {K : Act → World → Prop} {Q : Exit → Act → World → Prop} (hcl : c ≤ k.T.length) (h : Xc k p tm sm lo L0 w1 sn r c a w)
    (hX : ∀ a' w', Ec k p tm sm lo L0 w1 r a' w' → K a' w') :
    (Code.block 2 (Code.loop (Code.block 3 kX))).wp Tryd.prog (Exit.then K Q) a w := by
  refine wp_block ?_
  refine wp_loop_ghost_k (fun g a2 w2 => ∃ c2, g = k.T.length - c2 ∧ c2 ≤ k.T.length ∧ Xc k p tm sm lo L0 w1 sn r c2 a2 w2) (k.T.length - c) ⟨c, rfl, hcl, h⟩ ?_
  rintro g a2 w2 ⟨c2, rfl, hcl2, h2⟩ J K2 hJ hK2
  refine xround hC h2 ?_ ?_
  · intro a3 w3 c3 hlt hcl3 h3
    exact hK2 _ _ (Handed.intro (k.T.length - c3) (by omega) (hJ _ _ _ ⟨c3, rfl, hcl3, h3⟩))
  · intro a3 w3 h3
    exact hX a3 w3 h3
/-- The loop that looks for a comment: it is there at once. -/
theorem bloop {k : Kn} {p tm sm lo : Nat} {L0 : List Value} {w1 : World} (hC : Cc k p tm sm lo w1) {c u col mi : Nat} {row r txt : List Int} {tv v8 : Value} {a : Act} {w : World} {K : Act → World → Prop} {Q : Exit → Act → World → Prop} (hF : Fc p tm sm tv v8 a) (hS : Wc k p tm sm lo L0 w1 c u col mi (35 :: row ++ 10 :: r) txt tv w) (hrow : ∀ y ∈ row, y ≠ 10)
    (hX : ∀ a' w', Ec k p tm sm lo L0 w1 r a' w' → K a' w') :
    (Code.block 0 (Code.loop kB)).wp Tryd.prog (Exit.then K Q) a w := by
  refine wp_block ?_
  refine wp_loop_ghost_k (fun g a2 w2 => Fc p tm sm tv v8 a2 ∧ w2 = w) 0 ⟨hF, rfl⟩ ?_
  rintro g a2 w2 ⟨hF2, rfl⟩ J K2 hJ hK2
  rw [kB_eq]
  refine wp_seq (h6t hF2 fun a3 hF3 => ?_)
  refine wp_seq (wp_block ?_)
  rw [then_block, kI_eq]
  refine wp_seq (s8 hC hF3 hS fun a4 w4 u4 hF4 hS4 hu4 => ?_)
  have h35 : fb (35 :: row ++ 10 :: r) = 35 := fb_small (by omega)
  refine wp_seq (s9 hC hF4 hS4 hu4 h35 fun a5 w5 hF5 hS5 => ?_)
  refine wp_seq (wp_seq (s10 hC hF5 hS5 hu4 h35 fun a6 w6 hF6 hS6 e55 => ?_))
  refine wp_cond_split (t := true) (show a6.tmps.getD 55 undef = _ from e55) (fun _ => ?_) (fun h => by cases h)
  refine wp_seq (s11 hC hF6 hS6 fun a7 hF7 => ?_)
  refine xloop hC hS6.here.fro.2 (sn := mi) (r := r) ⟨u4, col, mi, 35 :: row, txt, tv, hF7, hS6, Nat.le_refl _, fun y hy => by rcases List.mem_cons.1 hy with rfl | h; omega; exact hrow y h⟩ fun a8 w8 hE => ?_
  exact wp_exit (hX a8 w8 hE)
noncomputable def fr122 (p : Nat) (s : Value) : Act := { tmps := #[.pointer (some ⟨p, 0, none⟩), s] ++ Array.replicate (Tryd.f122.ntmps - 2) undef, defers := [] }
theorem ntmps122 : Tryd.f122.ntmps = 136 := by kernel_rfl
theorem fr122_size (p : Nat) (s : Value) : (fr122 p s).tmps.size = 136 := by
  unfold fr122
  rw [ntmps122]
  simp
theorem fr122_at (p : Nat) (s : Value) : gt (fr122 p s) 0 = .pointer (some ⟨p, 0, none⟩) ∧ gt (fr122 p s) 1 = s := by
  unfold gt fr122
  rw [ntmps122]
  refine ⟨?_, ?_⟩ <;> simp [Array.getElem?_append]
theorem res122 : Tryd.f122.results = #[.tmp 4] := by kernel_rfl
theorem results122 (a : Act) (b : Bool) (h : gt a 4 = .bool b) (w : World) : (results Tryd.f122 a.tmps).run Tryd.prog w = .ok (.bool b) w := by
  have h6 : a.tmps.getD 4 undef = .bool b := h
  unfold results
  rw [res122]
  simp only [Array.mapM_eq_mapM_toList, List.mapM_cons, List.mapM_nil, h6]
  simp [h6]
/-- A comment has been laid: a cell of the parser has turned. -/
theorem at_commented {k : Kn} {p : Nat} {L0 : List Value} {c u col : Nat} {rest : List Int} {w w5 : World} (h : At k p L0 c u col rest w) (hl : L0.length = 52) (hb : Below w.heap.size w w5) (v : Value) : At k p (L0.set 32 v) c u col rest (w5.setCell ⟨p, 32, none⟩ v) := by
  have h5 := h.far (Kp.of_below (ps := []) hb) (by simp)
  obtain ⟨bp, bl, mi, ml, z, L, h1, h24, h25, h26, h19, m1, m2, m3, ho⟩ := h5.ex
  have hpl := h1.plen
  refine ⟨h.fro, h.ch, h.len, bp, bl, mi, ml, z, L.set 32 v, h1.turn (h1.pb.set 32 v) (by simp [hpl]) ((Kp.refl [p] w5).setCell p 32 v (by simp)) (fun j hj => lset_ne (by omega)), ?_, ?_, ?_, ?_, m1, m2, m3, fun j j1 j2 j3 j4 j5 => ?_⟩
  · rw [lset_ne (by omega)]; exact h24
  · rw [lset_ne (by omega)]; exact h25
  · rw [lset_ne (by omega)]; exact h26
  · rw [lset_ne (by omega)]; exact h19
  · by_cases e : j = 32
    · subst e
      rw [lset_at (by omega), lset_at (by omega)]
    · rw [lset_ne (by omega), lset_ne (by omega)]
      exact ho j j1 j2 j3 j4 j5
/-- A comment is passed over. -/
def Passed (k : Kn) (p : Nat) (L0 : List Value) (c : Nat) (r : List Int) (w : World) (e : Ending) (w' : World) : Prop :=
  e = .returned (.bool true) ∧ ∃ L0' c' u' col' row, At k p L0' c' u' col' (row ++ 10 :: r) w' ∧ (∀ y ∈ row, y ≠ 10) ∧ (∀ j, j ≠ 32 → L0'[j]? = L0[j]?) ∧ L0'.length = 52 ∧ 1 ≤ u' ∧ Kp (k.bs p) w w'
theorem comment_any {k : Kn} {p : Nat} {L0 : List Value} {c u col : Nat} {row r : List Int} {w : World} (s0 s1 s2 : Int) (hr : RoundOk k p) (hA : At k p L0 c (u + 1) col (35 :: row ++ 10 :: r) w) (hrow : ∀ y ∈ row, y ≠ 10) (h32 : L0[32]? = some (.slice none 0 0)) (hl : L0.length = 52) (hg : 2 < w.heap.size) :
    Calls Tryd.prog 122 #[.pointer (some ⟨p, 0, none⟩), .agg #[.int .i64 s0, .int .i64 s1, .int .i64 s2]] w (Passed k p L0 c r w) := by
  refine calls_of_wp (fn := Tryd.f122) (c := kA) Tryd.func122 kbody_eq ?_
  show kA.wp Tryd.prog _ (fr122 p _) w
  obtain ⟨g0, g1⟩ := fr122_at p (.agg #[.int .i64 s0, .int .i64 s1, .int .i64 s2])
  have hfar : ∀ g, w.heap.size ≤ g → Far k p g := by
    obtain ⟨bp, bl, mi, ml, z, L, hR, _⟩ := hA.ex
    exact fun g hg => far_new hR hg
  have hret : ∀ (a' : Act) (w' : World), a'.defers = [] → gt a' 4 = .bool true → Passed k p L0 c r w (.returned (.bool true)) w' → bodyPost Tryd.prog Tryd.f122 (Passed k p L0 c r w) .ret a' w' := fun a' w' hd h6 h => ⟨hd, _, results122 a' true h6 w', h⟩
  rw [kA_eq]
  refine wp_seq (h0t (fr122_size p _) rfl g0 g1 fun a1 z1 d1 x0 x3 => ?_)
  have hb1 : Below w.heap.size w (w.alloc (.cells #[.int .i64 s0, .int .i64 s1, .int .i64 s2] 74)) := (Below.refl _ _).alloc (Nat.le_refl _) _
  have ht1 : Bk (w.alloc (.cells #[.int .i64 s0, .int .i64 s1, .int .i64 s2] 74)) w.heap.size 74 [.int .i64 s0, .int .i64 s1, .int .i64 s2] := Bk.new w [.int .i64 s0, .int .i64 s1, .int .i64 s2] 74
  have hs1 : (w.alloc (.cells #[.int .i64 s0, .int .i64 s1, .int .i64 s2] 74)).heap.size = w.heap.size + 1 := by simp
  generalize w.alloc (.cells #[.int .i64 s0, .int .i64 s1, .int .i64 s2] 74) = w2 at *
  have hA2 := hA.far (Kp.of_below (ps := []) hb1) (by simp)
  refine wp_seq (hNt z1 d1 x0 x3 hA2 (fun a2 z2 d2 y0 y3 => ?_) (fun a2 d2 h4 => hret a2 w2 d2 h4 ⟨rfl, L0, c, u + 1, col, 35 :: row, hA2, fun y hy => by rcases List.mem_cons.1 hy with rfl | h; omega; exact hrow y h, fun _ _ => rfl, hl, by omega, Kp.of_below hb1⟩))
  refine wp_seq (h3t z2 d2 y0 y3 fun a3 z3 d3 r0 r3 r5 => ?_)
  have hb2 : Below w2.heap.size w2 (w2.alloc (.cells #[.int .i64 0, .int .i64 0, .int .i64 0] 74)) := (Below.refl _ _).alloc (Nat.le_refl _) _
  have hm2 : Bk (w2.alloc (.cells #[.int .i64 0, .int .i64 0, .int .i64 0] 74)) w2.heap.size 74 [.int .i64 0, .int .i64 0, .int .i64 0] := Bk.new w2 [.int .i64 0, .int .i64 0, .int .i64 0] 74
  have hs2 : (w2.alloc (.cells #[.int .i64 0, .int .i64 0, .int .i64 0] 74)).heap.size = w2.heap.size + 1 := by simp
  generalize w2.alloc (.cells #[.int .i64 0, .int .i64 0, .int .i64 0] 74) = w3 at *
  have hk23 : Kp [] w2 w3 := Kp.of_below hb2
  have hA3 := hA2.far hk23 (by simp)
  obtain ⟨mi, hI3⟩ := At.i hA3
  refine wp_seq (h4t z3 d3 r0 r3 r5 fun a4 z4 d4 q0 q3 q5 q6 => ?_)
  have hC : Cc k p w.heap.size w2.heap.size w3.heap.size w := ⟨hr, hfar, Nat.le_refl _, by omega, by omega, by omega, by omega, hg⟩
  have hk3 : Kp (k.bs p) w w3 := (Kp.of_below hb1).trans (hk23.mono (by simp))
  have hS3 : Wc k p w.heap.size w2.heap.size w3.heap.size L0 w c (u + 1) col mi (35 :: row ++ 10 :: r) [] (.slice none 0 0) w3 := ⟨hI3, hk3, ⟨s0, s1, s2, ht1.kp hk23 (by simp)⟩, ⟨0, 0, 0, hm2⟩, Row.nil _ _, Nat.le_refl _, by simp⟩
  refine wp_seq (wp_seq (h5t z4 d4 q0 q3 q5 q6 fun a5 v8 hF5 => ?_))
  refine bloop hC hF5 hS3 hrow fun a6 w6 hE => ?_
  obtain ⟨c6, u6, col6, mi6, txt6, tv6, v86, hF6, hS6, hu6⟩ := hE
  rw [kZ_eq]
  refine wp_seq (wp_seq (s24 hC hF6 hS6 fun a7 hF7 e122 => ?_))
  by_cases h0 : 0 < txt6.length
  · rw [show decide (0 < txt6.length) = true by simpa using h0] at e122
    refine wp_cond_split (t := true) (show a7.tmps.getD 122 undef = _ from e122) (fun _ => ?_) (fun h => by cases h)
    obtain ⟨t0, t1, t2, htm⟩ := hS6.tmb
    obtain ⟨m0, m1, m2, hsm⟩ := hS6.smb
    obtain ⟨va, vc, hve⟩ := hS6.row.slice
    obtain ⟨bp, bl, ml, z, L, g1, h24, h25, h26, h19, k1, k2, k3, ho⟩ := hS6.here.ex
    obtain ⟨c32, f32⟩ := at_ g1.pb 32 ((ho 32 (by unfold rdOff; omega) (by omega) (by omega) (by omega) (by omega)).trans h32)
    have h6 := hF7.s6
    rw [hve] at h6
    refine t25 hF7.size hF7.defers hF7.s0 hF7.s3 hF7.s5 h6 htm hsm g1.pb.lt c32 f32 fun a8 w8 v z8 d8 hb8 => ?_
    rw [← then_self (bodyPost Tryd.prog Tryd.f122 (Passed k p L0 c r w))]
    refine h26t z8 d8 fun a9 d9 h9 => ?_
    exact hret a9 _ d9 h9 ⟨rfl, L0.set 32 v, c6, u6, col6, [], at_commented hS6.here.at hl hb8 v, by simp, fun j hj => lset_ne (by omega), by simp [hl], hu6, (hS6.kp.trans (Kp.of_below hb8)).setCell p 32 v (k.mp p)⟩
  · rw [show decide (0 < txt6.length) = false by simpa using h0] at e122
    refine wp_cond_split (t := false) (show a7.tmps.getD 122 undef = _ from e122) (fun h => by cases h) (fun _ => ?_)
    refine wp_skip ?_
    show k26.wp Tryd.prog (bodyPost Tryd.prog Tryd.f122 (Passed k p L0 c r w)) a7 w6
    rw [← then_self (bodyPost Tryd.prog Tryd.f122 (Passed k p L0 c r w))]
    refine h26t hF7.size hF7.defers fun a8 d8 h8 => ?_
    exact hret a8 w6 d8 h8 ⟨rfl, L0, c6, u6, col6, [], hS6.here.at, by simp, fun _ _ => rfl, hl, hu6, hS6.kp⟩
end Go.Proofs.YtocbbekciphjgaaDoor.Cm
/- QgD -/
/- The header of a block scalar (yaml_parser_scan_block_scalar): its comment, the walk. Printed by genQg.py. -/
namespace Go.Proofs.YtocbbekciphjgaaDoor.Bs
open Go.RowKit Go.Proofs.YtocbbekciphjgaaDoor.Rdp Go.Proofs.YtocbbekciphjgaaDoor.Pa Go.Proofs.YtocbbekciphjgaaDoor.Sc Go.Proofs.YtocbbekciphjgaaDoor.Qd
set_option linter.unusedVariables false
set_option linter.unusedSimpArgs false
set_option maxHeartbeats 32000000 in
set_option maxRecDepth 100000 in
theorem t39 {k : Kn} {p t mk : Nat} {s0 s1 s2 : Int} {L0 : List Value} {w1 : World} (hC : Ch1 k p mk s0 s1 s2 L0 w1) {li : Bool} {ch : Int} {inc c u col : Nat} {r : List Int} {a : Act} {w : World} {K : Act → World → Prop} {Q : Exit → Act → World → Prop} (hF : Fh p t mk li ch inc a) {row : List Int} (hS : Sh k p L0 w1 c (u + 1) col (35 :: row ++ 10 :: r) w) (hrow : ∀ y ∈ row, y ≠ 10) (h32 : L0[32]? = some (.slice none 0 0)) (hl : L0.length = 52)
    (hK : ∀ a' w' L0' c' u' col' row', Fh p t mk li ch inc a' → Sh k p L0' w1 c' u' col' (row' ++ 10 :: r) w' → (∀ y ∈ row', y ≠ 10) → (∀ j, j ≠ 32 → L0'[j]? = L0[j]?) → L0'.length = 52 → 1 ≤ u' → K a' w') :
    g39.wp Tryd.prog (Exit.then K Q) a w := by
  have hmk := hC.mark.kp hS.kp hC.own
  obtain ⟨q0, _⟩ := at_ hmk 0 (v := .int .i64 s0) rfl
  obtain ⟨q1, _⟩ := at_ hmk 1 (v := .int .i64 s1) rfl
  obtain ⟨q2, _⟩ := at_ hmk 2 (v := .int .i64 s2) rfl
  have hcm := Lib.hid (Cm.comment_any s0 s1 s2 hC.round hS.here hrow h32 hl (by have := hS.kp.size; have := hC.two; omega))
  have HS := Lib.hid hS
  have HKK := Lib.hid hK
  rw [lit464 a hF.size hF.defers, hF.s0, hF.s1, hF.s2, hF.s7, hF.s8, hF.s9]
  clear hC hF hS hK hmk
  conv => arg 2; whnf
  go_wp2_with fail
  refine hcm.out.mono ?_
  rintro e w' ⟨rfl, L0', c', u', col', row', hat, hr', hj, hl', hu', hkp⟩
  have HST : Hid (Sh k p L0' w1 c' u' col' (row' ++ 10 :: r) w') := ⟨hat, HS.out.kp.trans hkp⟩
  have HR := Lib.hid hr'
  have HJ := Lib.hid hj
  clear hat hkp hcm HS hr' hj q0 q1 q2
  go_wp2_with fail
  exact HKK.out _ _ L0' c' u' col' row' ⟨rfl, rfl, rfl, rfl, rfl, rfl, rfl, rfl⟩ HST.out HR.out HJ.out hl' hu'
end Go.Proofs.YtocbbekciphjgaaDoor.Bs
