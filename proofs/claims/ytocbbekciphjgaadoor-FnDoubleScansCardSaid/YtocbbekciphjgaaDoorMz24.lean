/- QdT: parts of the proof, one behind another. -/
import Derived.Test.YtocbbekciphjgaaDoorMz23
/- QdT -/
/- A character by its number (yaml_parser_scan_flow_scalar): the walks. Printed by genQdJ.py. -/
namespace Go.Proofs.YtocbbekciphjgaaDoor.Qd
open Go.RowKit Go.Proofs.YtocbbekciphjgaaDoor.Rdp Go.Proofs.YtocbbekciphjgaaDoor.Pa Go.Proofs.YtocbbekciphjgaaDoor.Sc
set_option linter.unusedVariables false
set_option linter.unusedSimpArgs false
theorem cNum_eq : cNum = .seq c81 (.seq c82 (.seq (.seq c84 (.block 5 (.loop cN5))) (.seq c91 (.seq c94 (.seq c107 (.block 7 (.loop cN7))))))) := by kernel_rfl
noncomputable def n87 : Code := part [1, 0, 0, 0] cN5
noncomputable def n90 : Code := part [1, 0, 0, 1] cN5
theorem cN5_eq : cN5 = .seq c85 (.seq (.block 6 (.seq n87 n90)) c86) := by kernel_rfl
theorem cN7_eq : cN7 = .seq c108 (.seq (.block 8 c110) c109) := by kernel_rfl
set_option maxHeartbeats 32000000 in
set_option maxRecDepth 100000 in
theorem s81 {k : Kn} {p t mk lo : Nat} {s0 s1 s2 : Int} {L0 : List Value} {w1 : World} (hC : Cx k p mk lo s0 s1 s2 L0 w1) {sg : Bool} {sv lbv tbv wsv : Value} {lbr : Bool} {a : Act} {w : World} {K : Act → World → Prop} {Q : Exit → Act → World → Prop} (hF : Fm sg p t mk sv lbv tbv wsv lbr a) {n : Nat} (h13 : gt a 13 = .int .i64 (n : Nat)) 
    (hK : ∀ a', Fm sg p t mk sv lbv tbv wsv lbr a' → gt a' 13 = .int .i64 (n : Nat) → gt a' 14 = .int .i64 0 → K a' w) :
    c81.wp Tryd.prog (Exit.then K Q) a w := by
  have HKK := Lib.hid hK
  rw [lit717 a hF.size hF.defers, hF.s0, hF.s1, hF.s2, hF.s7, hF.s8, hF.s9, hF.s10, hF.s11, hF.s12, h13]
  clear hC hF hK h13
  conv => arg 2; whnf
  go_wp2_with fail
  exact HKK.out _ ⟨rfl, rfl, rfl, rfl, rfl, rfl, rfl, rfl, rfl, rfl, rfl⟩ rfl rfl
set_option maxHeartbeats 32000000 in
set_option maxRecDepth 100000 in
theorem u82 {k : Kn} {p t mk lo : Nat} {s0 s1 s2 : Int} {L0 : List Value} {w1 : World} (hC : Cx k p mk lo s0 s1 s2 L0 w1) {sg : Bool} {n c u col : Nat} {rest s lb tb ws : List Int} {sv lbv tbv wsv : Value} {lbr : Bool} {a : Act} {w : World} {K : Act → World → Prop} {Q : Exit → Act → World → Prop} (hF : Fm sg p t mk sv lbv tbv wsv lbr a) (hS : St k p lo L0 w1 c u col rest s lb tb ws sv lbv tbv wsv w) (hn : 1 ≤ n) (hn8 : n ≤ 8) (h13 : gt a 13 = .int .i64 (n : Nat))
    (hK : ∀ a' w' u', Fm sg p t mk sv lbv tbv wsv lbr a' → St k p lo L0 w1 c u' col rest s lb tb ws sv lbv tbv wsv w' → Rdy k.T c n u' → 1 ≤ u' → gt a' 13 = .int .i64 (n : Nat) → gt a' 14 = gt a 14 → K a' w') :
    c82.wp Tryd.prog (Exit.then K Q) a w := by
  have hub0 : Calls Tryd.prog 101 #[.pointer (some ⟨p, 0, none⟩), .int .i64 n] w fun e w' => e = .returned (.bool true) ∧ Filled k p L0 c n col rest w w' := hS.here.ub hC.round n (by omega) (by omega) (by have := hS.kp.size; have := hC.low; have := hC.two; omega)
  have hub := Lib.hid hub0
  clear hub0
  have HS := Lib.hid hS
  have HKK := Lib.hid hK
  have HFAR := Lib.hid hC.far
  obtain ⟨bp, bl, mi, ml, z, L, h1, h24, h25, h26, h19, m1, m2, m3, ho⟩ := hS.here.ex
  have hsm := h1.small
  obtain ⟨c16, f16⟩ := at_ h1.pb 16 h1.at16
  obtain ⟨c17, f17⟩ := at_ h1.pb 17 h1.at17
  obtain ⟨c18, f18⟩ := at_ h1.pb 18 h1.at18
  obtain ⟨c26, f26⟩ := at_ h1.pb 26 h26
  have j2 : (bl : Int) ≤ 541 := by omega
  have j0 : (0 : Int) ≤ (bp : Int) := by omega
  by_cases hlt : u < n
  · have e1 : decide ((u : Int) < n) = true := by simp; omega
    have e2 : (u : Int) < n := by omega
    rw [lit717 a hF.size hF.defers, hF.s0, hF.s1, hF.s2, hF.s7, hF.s8, hF.s9, hF.s10, hF.s11, hF.s12, h13]
    clear h1 h24 h25 h26 h19 ho hC hF hS hK h13
    conv => arg 2; whnf
    try simp only [List.append]
    go_wp2_with fail
    refine hub.out.mono ?_
    rintro e w' ⟨rfl, ⟨u', hr, hu', hat⟩, hkp, hsz⟩
    have hst := HS.out.turn HFAR.out hkp hat (Nat.le_refl _)
    have HST := Lib.hid hst
    have HR := Lib.hid hr
    clear hst hr hat hkp hsz hub HS c16 f16 c17 f17 c18 f18 c26 f26
    go_wp2_with fail
    exact HKK.out _ _ u' ⟨rfl, rfl, rfl, rfl, rfl, rfl, rfl, rfl, rfl, rfl, rfl⟩ (HST.out.drewN 0) HR.out hu' rfl rfl
  · have e1 : decide ((u : Int) < n) = false := by simp; omega
    have e2 : ¬ ((u : Int) < n) := by omega
    rw [lit717 a hF.size hF.defers, hF.s0, hF.s1, hF.s2, hF.s7, hF.s8, hF.s9, hF.s10, hF.s11, hF.s12, h13]
    clear h1 h24 h25 h26 h19 ho hC hF hS hK hub h13
    conv => arg 2; whnf
    try simp only [List.append]
    go_wp2_with fail
    exact HKK.out _ _ u ⟨rfl, rfl, rfl, rfl, rfl, rfl, rfl, rfl, rfl, rfl, rfl⟩ HS.out (.inl (by omega)) (by omega) rfl rfl
set_option maxHeartbeats 32000000 in
set_option maxRecDepth 100000 in
theorem s84 {k : Kn} {p t mk lo : Nat} {s0 s1 s2 : Int} {L0 : List Value} {w1 : World} (hC : Cx k p mk lo s0 s1 s2 L0 w1) {sg : Bool} {sv lbv tbv wsv : Value} {lbr : Bool} {a : Act} {w : World} {K : Act → World → Prop} {Q : Exit → Act → World → Prop} (hF : Fm sg p t mk sv lbv tbv wsv lbr a) {n : Nat} {v : Int} (h13 : gt a 13 = .int .i64 (n : Nat)) (h14 : gt a 14 = .int .i64 v) 
    (hK : ∀ a', Fm sg p t mk sv lbv tbv wsv lbr a' → gt a' 13 = .int .i64 (n : Nat) → gt a' 14 = .int .i64 v → gt a' 15 = .int .i64 0 → K a' w) :
    c84.wp Tryd.prog (Exit.then K Q) a w := by
  have HKK := Lib.hid hK
  rw [lit717 a hF.size hF.defers, hF.s0, hF.s1, hF.s2, hF.s7, hF.s8, hF.s9, hF.s10, hF.s11, hF.s12, h13, h14]
  clear hC hF hK h13 h14
  conv => arg 2; whnf
  go_wp2_with fail
  exact HKK.out _ ⟨rfl, rfl, rfl, rfl, rfl, rfl, rfl, rfl, rfl, rfl, rfl⟩ rfl rfl rfl
set_option maxHeartbeats 32000000 in
set_option maxRecDepth 100000 in
theorem s85_in {k : Kn} {p t mk lo : Nat} {s0 s1 s2 : Int} {L0 : List Value} {w1 : World} (hC : Cx k p mk lo s0 s1 s2 L0 w1) {sg : Bool} {sv lbv tbv wsv : Value} {lbr : Bool} {a : Act} {w : World} {K : Act → World → Prop} {Q : Exit → Act → World → Prop} (hF : Fm sg p t mk sv lbv tbv wsv lbr a) {n i : Nat} {v : Int} (h13 : gt a 13 = .int .i64 (n : Nat)) (h14 : gt a 14 = .int .i64 v) (h15 : gt a 15 = .int .i64 (i : Nat)) (hlt : i < n) (hn : n ≤ 8)
    (hK : ∀ a', Fm sg p t mk sv lbv tbv wsv lbr a' → gt a' 13 = .int .i64 (n : Nat) → gt a' 14 = .int .i64 v → gt a' 15 = .int .i64 (i : Nat) → K a' w) :
    c85.wp Tryd.prog (Exit.then K Q) a w := by
  have HKK := Lib.hid hK
  have j1 : (i : Int) < (n : Int) := by omega
  rw [lit717 a hF.size hF.defers, hF.s0, hF.s1, hF.s2, hF.s7, hF.s8, hF.s9, hF.s10, hF.s11, hF.s12, h13, h14, h15]
  clear hC hF hK h13 h14 h15
  conv => arg 2; whnf
  go_wp2_with fail
  exact HKK.out _ ⟨rfl, rfl, rfl, rfl, rfl, rfl, rfl, rfl, rfl, rfl, rfl⟩ rfl rfl rfl
set_option maxHeartbeats 32000000 in
set_option maxRecDepth 100000 in
theorem s85_out {k : Kn} {p t mk lo : Nat} {s0 s1 s2 : Int} {L0 : List Value} {w1 : World} (hC : Cx k p mk lo s0 s1 s2 L0 w1) {sg : Bool} {sv lbv tbv wsv : Value} {lbr : Bool} {a : Act} {w : World} {K : Act → World → Prop} {Q : Exit → Act → World → Prop} (hF : Fm sg p t mk sv lbv tbv wsv lbr a) {n i : Nat} {v : Int} (h13 : gt a 13 = .int .i64 (n : Nat)) (h14 : gt a 14 = .int .i64 v) (h15 : gt a 15 = .int .i64 (i : Nat)) (hlt : i = n) (hn : n ≤ 8)
    (hK : ∀ a', Fm sg p t mk sv lbv tbv wsv lbr a' → gt a' 13 = .int .i64 (n : Nat) → gt a' 14 = .int .i64 v → gt a' 15 = .int .i64 (i : Nat) → Q (.exit 5) a' w) :
    c85.wp Tryd.prog (Exit.then K Q) a w := by
  have HKK := Lib.hid hK
  subst hlt
  have j1 : ¬ ((i : Int) < (i : Int)) := by omega
  rw [lit717 a hF.size hF.defers, hF.s0, hF.s1, hF.s2, hF.s7, hF.s8, hF.s9, hF.s10, hF.s11, hF.s12, h13, h14, h15]
  clear hC hF hK h13 h14 h15
  conv => arg 2; whnf
  go_wp2_with fail
  exact HKK.out _ ⟨rfl, rfl, rfl, rfl, rfl, rfl, rfl, rfl, rfl, rfl, rfl⟩ rfl rfl rfl
set_option maxHeartbeats 32000000 in
set_option maxRecDepth 100000 in
theorem s87 {k : Kn} {p t mk lo : Nat} {s0 s1 s2 : Int} {L0 : List Value} {w1 : World} (hC : Cx k p mk lo s0 s1 s2 L0 w1) {sg : Bool} {c u col : Nat} {ds tl s lb tb ws : List Int} {sv lbv tbv wsv : Value} {lbr : Bool} {a : Act} {w : World} {K : Act → World → Prop} {Q : Exit → Act → World → Prop} (hF : Fm sg p t mk sv lbv tbv wsv lbr a) {n : Nat} {v : Int} (hS : St k p lo L0 w1 c u col (ds ++ tl) s lb tb ws sv lbv tbv wsv w) (hu : ds.length + 1 ≤ u) (hds : ∀ x ∈ ds, x < 128) (hn : ds.length ≤ 8) (h13 : gt a 13 = .int .i64 (n : Nat)) (h14 : gt a 14 = .int .i64 v) (h15 : gt a 15 = .int .i64 (ds.length : Nat))
    (hK : (hexd (fb tl)).isSome = true → ∀ a' w', Fm sg p t mk sv lbv tbv wsv lbr a' → St k p lo L0 w1 c u col (ds ++ tl) s lb tb ws sv lbv tbv wsv w' → gt a' 13 = .int .i64 (n : Nat) → gt a' 14 = .int .i64 v → gt a' 15 = .int .i64 (ds.length : Nat) → K a' w')
    (hX : (hexd (fb tl)).isSome = false → ∀ a' w', a'.defers = [] → gt a' 6 = .bool false → Er k p w1 w' → Q .ret a' w') :
    n87.wp Tryd.prog (Exit.then K Q) a w := by
  obtain ⟨bp, bl, mi, ml, z, L, h1, h24, h25, h26, h19, m1, m2, m3, ho⟩ := hS.here.ex
  have hsm := h1.small
  obtain ⟨c16, f16⟩ := at_ h1.pb 16 h1.at16
  obtain ⟨c17, f17⟩ := at_ h1.pb 17 h1.at17
  obtain ⟨c18, f18⟩ := at_ h1.pb 18 h1.at18
  obtain ⟨c26, f26⟩ := at_ h1.pb 26 h26
  have j2 : (bl : Int) ≤ 541 := by omega
  have j0 : (0 : Int) ≤ (bp : Int) := by omega
  obtain ⟨y0, z0, hok0, hlay0⟩ := peek h1 ds tl hS.here.fro hS.here.ch hds hu
  obtain ⟨x0, HX0⟩ : ∃ x0, Hid (fb tl = x0) := ⟨_, rfl⟩
  rw [HX0.out] at hok0 hlay0 hK hX
  obtain ⟨i, hi⟩ : ∃ i, ds.length = i := ⟨_, rfl⟩
  rw [hi] at hlay0 hn h15 hK
  have hx0 := hlay0.hx
  have hcall : ∀ N, Calls Tryd.prog 117 #[.slice (some ⟨k.q, 0, none⟩) bl 1536, .int .i64 ((bp : Int) + (i : Int))] (w.drewN N) fun e w' => e = .returned (.bool (hexd x0).isSome) ∧ w' = w.drewN N := fun N => by
    have := hex_any k.q (bp + i) bl 1536 x0 (by have := hlay0.hi; omega) (by omega) hok0.x0 (by have := hok0.x1; omega) (w.drewN N) hx0
    rw [Int.natCast_add] at this
    exact this
  obtain ⟨b, hb⟩ : ∃ b, (hexd x0).isSome = b := ⟨_, rfl⟩
  rw [hb] at hcall hK hX
  have hmk := hC.mark.kp hS.kp hC.own
  obtain ⟨k0, _⟩ := at_ hmk 0 (v := .int .i64 s0) rfl
  obtain ⟨k1, _⟩ := at_ hmk 1 (v := .int .i64 s1) rfl
  obtain ⟨k2, _⟩ := at_ hmk 2 (v := .int .i64 s2) rfl
  have j8 : (i : Int) ≤ 8 := by omega
  have HC := Lib.hid hC
  have HCALL := Lib.hid hcall
  have HS := Lib.hid hS
  have HKK := Lib.hid hK
  have HXX := Lib.hid hX
  rw [lit717 a hF.size hF.defers, hF.s0, hF.s1, hF.s2, hF.s7, hF.s8, hF.s9, hF.s10, hF.s11, hF.s12, h13, h14, h15]
  clear h1 h24 h25 h26 h19 ho hC hF hS hK hX hcall hok0 hlay0 hx0 hmk h13 h14 h15 hb hi
  conv => arg 2; whnf
  try simp only [List.append]
  cases b
  · go_wp2_with fail
    go_quiet ((go_at_call 117; exact Calls.quiet_of_same (HCALL.out _)))
    go_wp2_with fail
    refine (At.fault (HS.out.here.drewN _) HC.out.cells (HS.out.kp.drewN _) _ _ s0 s1 s2).mono ?_
    rintro e w' ⟨rfl, her⟩
    have HER := Lib.hid her
    clear her
    go_wp2_with fail
    exact HXX.out (by first | exact trivial | rfl) _ _ rfl rfl HER.out
  · go_wp2_with fail
    go_quiet ((go_at_call 117; exact Calls.quiet_of_same (HCALL.out _)))
    go_wp2_with fail
    exact HKK.out (by first | exact trivial | rfl) _ _ ⟨rfl, rfl, rfl, rfl, rfl, rfl, rfl, rfl, rfl, rfl, rfl⟩ (HS.out.drewN _) rfl rfl rfl
set_option maxHeartbeats 32000000 in
set_option maxRecDepth 100000 in
theorem s90 {k : Kn} {p t mk lo : Nat} {s0 s1 s2 : Int} {L0 : List Value} {w1 : World} (hC : Cx k p mk lo s0 s1 s2 L0 w1) {sg : Bool} {c u col : Nat} {ds tl s lb tb ws : List Int} {sv lbv tbv wsv : Value} {lbr : Bool} {a : Act} {w : World} {K : Act → World → Prop} {Q : Exit → Act → World → Prop} (hF : Fm sg p t mk sv lbv tbv wsv lbr a) {n : Nat} {v d : Int} (hS : St k p lo L0 w1 c u col (ds ++ tl) s lb tb ws sv lbv tbv wsv w) (hu : ds.length + 1 ≤ u) (hds : ∀ x ∈ ds, x < 128) (hn : ds.length ≤ 8) (hd : hexd (fb tl) = some d) (hv0 : 0 ≤ v) (hv1 : v ≤ 4294967295) (h13 : gt a 13 = .int .i64 (n : Nat)) (h14 : gt a 14 = .int .i64 v) (h15 : gt a 15 = .int .i64 (ds.length : Nat))
    (hK : ∀ a' w', Fm sg p t mk sv lbv tbv wsv lbr a' → St k p lo L0 w1 c u col (ds ++ tl) s lb tb ws sv lbv tbv wsv w' → gt a' 13 = .int .i64 (n : Nat) → gt a' 14 = .int .i64 (v * 16 + d) → gt a' 15 = .int .i64 (ds.length : Nat) → K a' w') :
    n90.wp Tryd.prog (Exit.then K Q) a w := by
  obtain ⟨bp, bl, mi, ml, z, L, h1, h24, h25, h26, h19, m1, m2, m3, ho⟩ := hS.here.ex
  have hsm := h1.small
  obtain ⟨c16, f16⟩ := at_ h1.pb 16 h1.at16
  obtain ⟨c17, f17⟩ := at_ h1.pb 17 h1.at17
  obtain ⟨c18, f18⟩ := at_ h1.pb 18 h1.at18
  obtain ⟨c26, f26⟩ := at_ h1.pb 26 h26
  have j2 : (bl : Int) ≤ 541 := by omega
  have j0 : (0 : Int) ≤ (bp : Int) := by omega
  obtain ⟨y0, z0, hok0, hlay0⟩ := peek h1 ds tl hS.here.fro hS.here.ch hds hu
  obtain ⟨x0, HX0⟩ : ∃ x0, Hid (fb tl = x0) := ⟨_, rfl⟩
  rw [HX0.out] at hok0 hlay0 hd
  obtain ⟨i, hi⟩ : ∃ i, ds.length = i := ⟨_, rfl⟩
  rw [hi] at hlay0 hn h15 hK
  have hx0 := hlay0.hx
  have hcall : ∀ N, Calls Tryd.prog 118 #[.slice (some ⟨k.q, 0, none⟩) bl 1536, .int .i64 ((bp : Int) + (i : Int))] (w.drewN N) fun e w' => e = .returned (.int .i64 d) ∧ w' = w.drewN N := fun N => by
    have := ash_any k.q (bp + i) bl 1536 x0 d (by have := hlay0.hi; omega) (by omega) hd (w.drewN N) hx0
    rw [Int.natCast_add] at this
    exact this
  have hdr := hexd_range hd
  have j8 : (i : Int) ≤ 8 := by omega
  obtain ⟨d0, d1, _, _⟩ := hdr
  have HCALL := Lib.hid hcall
  have HS := Lib.hid hS
  have HKK := Lib.hid hK
  rw [lit717 a hF.size hF.defers, hF.s0, hF.s1, hF.s2, hF.s7, hF.s8, hF.s9, hF.s10, hF.s11, hF.s12, h13, h14, h15]
  clear h1 h24 h25 h26 h19 ho hC hF hS hK hcall hok0 hlay0 hx0 h13 h14 h15 hd hi
  conv => arg 2; whnf
  try simp only [List.append]
  go_wp2_with fail
  go_quiet ((go_at_call 118; exact Calls.quiet_of_same (HCALL.out _)))
  go_wp2_with fail
  exact HKK.out _ _ ⟨rfl, rfl, rfl, rfl, rfl, rfl, rfl, rfl, rfl, rfl, rfl⟩ (HS.out.drewN _) rfl rfl rfl
set_option maxHeartbeats 32000000 in
set_option maxRecDepth 100000 in
theorem s86 {k : Kn} {p t mk lo : Nat} {s0 s1 s2 : Int} {L0 : List Value} {w1 : World} (hC : Cx k p mk lo s0 s1 s2 L0 w1) {sg : Bool} {sv lbv tbv wsv : Value} {lbr : Bool} {a : Act} {w : World} {K : Act → World → Prop} {Q : Exit → Act → World → Prop} (hF : Fm sg p t mk sv lbv tbv wsv lbr a) {n i : Nat} {v : Int} (h13 : gt a 13 = .int .i64 (n : Nat)) (h14 : gt a 14 = .int .i64 v) (h15 : gt a 15 = .int .i64 (i : Nat)) (hn : i ≤ 8)
    (hK : ∀ a', Fm sg p t mk sv lbv tbv wsv lbr a' → gt a' 13 = .int .i64 (n : Nat) → gt a' 14 = .int .i64 v → gt a' 15 = .int .i64 ((i + 1 : Nat) : Int) → K a' w) :
    c86.wp Tryd.prog (Exit.then K Q) a w := by
  have HKK := Lib.hid hK
  have he : ((i + 1 : Nat) : Int) = (i : Int) + 1 := by omega
  have HE := Lib.hid he
  clear he
  rw [lit717 a hF.size hF.defers, hF.s0, hF.s1, hF.s2, hF.s7, hF.s8, hF.s9, hF.s10, hF.s11, hF.s12, h13, h14, h15]
  clear hC hF hK h13 h14 h15
  conv => arg 2; whnf
  go_wp2_with fail
  exact HKK.out _ ⟨rfl, rfl, rfl, rfl, rfl, rfl, rfl, rfl, rfl, rfl, rfl⟩ rfl rfl (congrArg (Value.int .i64) HE.out.symm)
set_option maxHeartbeats 32000000 in
set_option maxRecDepth 100000 in
theorem s91 {k : Kn} {p t mk lo : Nat} {s0 s1 s2 : Int} {L0 : List Value} {w1 : World} (hC : Cx k p mk lo s0 s1 s2 L0 w1) {sg : Bool} {c u col : Nat} {rest s lb tb ws : List Int} {sv lbv tbv wsv : Value} {lbr : Bool} {a : Act} {w : World} {K : Act → World → Prop} {Q : Exit → Act → World → Prop} (hF : Fm sg p t mk sv lbv tbv wsv lbr a) {n : Nat} {v : Int} (hS : St k p lo L0 w1 c u col rest s lb tb ws sv lbv tbv wsv w) (hv0 : 0 ≤ v) (h13 : gt a 13 = .int .i64 (n : Nat)) (h14 : gt a 14 = .int .i64 v)
    (hK : v ≤ 1114111 → (v < 55296 ∨ 57343 < v) → ∀ a', Fm sg p t mk sv lbv tbv wsv lbr a' → gt a' 13 = .int .i64 (n : Nat) → gt a' 14 = .int .i64 v → K a' w)
    (hX : ¬ (v ≤ 1114111 ∧ (v < 55296 ∨ 57343 < v)) → ∀ a' w', a'.defers = [] → gt a' 6 = .bool false → Er k p w1 w' → Q .ret a' w') :
    c91.wp Tryd.prog (Exit.then K Q) a w := by
  have hmk := hC.mark.kp hS.kp hC.own
  obtain ⟨k0, _⟩ := at_ hmk 0 (v := .int .i64 s0) rfl
  obtain ⟨k1, _⟩ := at_ hmk 1 (v := .int .i64 s1) rfl
  obtain ⟨k2, _⟩ := at_ hmk 2 (v := .int .i64 s2) rfl
  have HC := Lib.hid hC
  have HS := Lib.hid hS
  have HKK := Lib.hid hK
  have HXX := Lib.hid hX
  rw [lit717 a hF.size hF.defers, hF.s0, hF.s1, hF.s2, hF.s7, hF.s8, hF.s9, hF.s10, hF.s11, hF.s12, h13, h14]
  clear hC hF hS hK hX hmk h13 h14
  conv => arg 2; whnf
  try simp only [List.append]
  by_cases c1 : 55296 ≤ v
  · have e1 : decide (55296 ≤ v) = true := by simp; omega
    by_cases c2 : v ≤ 57343
    · have e2 : decide (v ≤ 57343) = true := by simp; omega
      go_wp2_with fail
      refine (At.fault HS.out.here HC.out.cells HS.out.kp _ _ s0 s1 s2).mono ?_
      rintro e w' ⟨rfl, her⟩
      have HER := Lib.hid her
      clear her
      go_wp2_with fail
      exact HXX.out (by omega) _ _ rfl rfl HER.out
    · have e2 : decide (v ≤ 57343) = false := by simp; omega
      by_cases c3 : 1114111 < v
      · have e3 : decide (1114111 < v) = true := by simp; omega
        go_wp2_with fail
        refine (At.fault HS.out.here HC.out.cells HS.out.kp _ _ s0 s1 s2).mono ?_
        rintro e w' ⟨rfl, her⟩
        have HER := Lib.hid her
        clear her
        go_wp2_with fail
        exact HXX.out (by omega) _ _ rfl rfl HER.out
      · have e3 : decide (1114111 < v) = false := by simp; omega
        go_wp2_with fail
        exact HKK.out (by omega) (by omega) _ ⟨rfl, rfl, rfl, rfl, rfl, rfl, rfl, rfl, rfl, rfl, rfl⟩ rfl rfl
  · have e1 : decide (55296 ≤ v) = false := by simp; omega
    have e3 : decide (1114111 < v) = false := by simp; omega
    go_wp2_with fail
    exact HKK.out (by omega) (by omega) _ ⟨rfl, rfl, rfl, rfl, rfl, rfl, rfl, rfl, rfl, rfl, rfl⟩ rfl rfl
set_option maxHeartbeats 32000000 in
set_option maxRecDepth 100000 in
theorem s107 {k : Kn} {p t mk lo : Nat} {s0 s1 s2 : Int} {L0 : List Value} {w1 : World} (hC : Cx k p mk lo s0 s1 s2 L0 w1) {sg : Bool} {sv lbv tbv wsv : Value} {lbr : Bool} {a : Act} {w : World} {K : Act → World → Prop} {Q : Exit → Act → World → Prop} (hF : Fm sg p t mk sv lbv tbv wsv lbr a) {n : Nat} (h13 : gt a 13 = .int .i64 (n : Nat)) 
    (hK : ∀ a', Fm sg p t mk sv lbv tbv wsv lbr a' → gt a' 13 = .int .i64 (n : Nat) → gt a' 16 = .int .i64 0 → K a' w) :
    c107.wp Tryd.prog (Exit.then K Q) a w := by
  have HKK := Lib.hid hK
  rw [lit717 a hF.size hF.defers, hF.s0, hF.s1, hF.s2, hF.s7, hF.s8, hF.s9, hF.s10, hF.s11, hF.s12, h13]
  clear hC hF hK h13
  conv => arg 2; whnf
  go_wp2_with fail
  exact HKK.out _ ⟨rfl, rfl, rfl, rfl, rfl, rfl, rfl, rfl, rfl, rfl, rfl⟩ rfl rfl
set_option maxHeartbeats 32000000 in
set_option maxRecDepth 100000 in
theorem s108_in {k : Kn} {p t mk lo : Nat} {s0 s1 s2 : Int} {L0 : List Value} {w1 : World} (hC : Cx k p mk lo s0 s1 s2 L0 w1) {sg : Bool} {sv lbv tbv wsv : Value} {lbr : Bool} {a : Act} {w : World} {K : Act → World → Prop} {Q : Exit → Act → World → Prop} (hF : Fm sg p t mk sv lbv tbv wsv lbr a) {n i : Nat} (h13 : gt a 13 = .int .i64 (n : Nat)) (h16 : gt a 16 = .int .i64 (i : Nat)) (hlt : i < n) (hn : n ≤ 8)
    (hK : ∀ a', Fm sg p t mk sv lbv tbv wsv lbr a' → gt a' 13 = .int .i64 (n : Nat) → gt a' 16 = .int .i64 (i : Nat) → K a' w) :
    c108.wp Tryd.prog (Exit.then K Q) a w := by
  have HKK := Lib.hid hK
  have j1 : (i : Int) < (n : Int) := by omega
  rw [lit717 a hF.size hF.defers, hF.s0, hF.s1, hF.s2, hF.s7, hF.s8, hF.s9, hF.s10, hF.s11, hF.s12, h13, h16]
  clear hC hF hK h13 h16
  conv => arg 2; whnf
  go_wp2_with fail
  exact HKK.out _ ⟨rfl, rfl, rfl, rfl, rfl, rfl, rfl, rfl, rfl, rfl, rfl⟩ rfl rfl
set_option maxHeartbeats 32000000 in
set_option maxRecDepth 100000 in
theorem s108_out {k : Kn} {p t mk lo : Nat} {s0 s1 s2 : Int} {L0 : List Value} {w1 : World} (hC : Cx k p mk lo s0 s1 s2 L0 w1) {sg : Bool} {sv lbv tbv wsv : Value} {lbr : Bool} {a : Act} {w : World} {K : Act → World → Prop} {Q : Exit → Act → World → Prop} (hF : Fm sg p t mk sv lbv tbv wsv lbr a) {n i : Nat} (h13 : gt a 13 = .int .i64 (n : Nat)) (h16 : gt a 16 = .int .i64 (i : Nat)) (hlt : i = n) (hn : n ≤ 8)
    (hK : ∀ a', Fm sg p t mk sv lbv tbv wsv lbr a' → gt a' 13 = .int .i64 (n : Nat) → gt a' 16 = .int .i64 (i : Nat) → Q (.exit 7) a' w) :
    c108.wp Tryd.prog (Exit.then K Q) a w := by
  have HKK := Lib.hid hK
  subst hlt
  have j1 : ¬ ((i : Int) < (i : Int)) := by omega
  rw [lit717 a hF.size hF.defers, hF.s0, hF.s1, hF.s2, hF.s7, hF.s8, hF.s9, hF.s10, hF.s11, hF.s12, h13, h16]
  clear hC hF hK h13 h16
  conv => arg 2; whnf
  go_wp2_with fail
  exact HKK.out _ ⟨rfl, rfl, rfl, rfl, rfl, rfl, rfl, rfl, rfl, rfl, rfl⟩ rfl rfl
set_option maxHeartbeats 32000000 in
set_option maxRecDepth 100000 in
theorem s109 {k : Kn} {p t mk lo : Nat} {s0 s1 s2 : Int} {L0 : List Value} {w1 : World} (hC : Cx k p mk lo s0 s1 s2 L0 w1) {sg : Bool} {sv lbv tbv wsv : Value} {lbr : Bool} {a : Act} {w : World} {K : Act → World → Prop} {Q : Exit → Act → World → Prop} (hF : Fm sg p t mk sv lbv tbv wsv lbr a) {n i : Nat} (h13 : gt a 13 = .int .i64 (n : Nat)) (h16 : gt a 16 = .int .i64 (i : Nat)) (hn : i ≤ 8)
    (hK : ∀ a', Fm sg p t mk sv lbv tbv wsv lbr a' → gt a' 13 = .int .i64 (n : Nat) → gt a' 16 = .int .i64 ((i + 1 : Nat) : Int) → K a' w) :
    c109.wp Tryd.prog (Exit.then K Q) a w := by
  have HKK := Lib.hid hK
  have he : ((i + 1 : Nat) : Int) = (i : Int) + 1 := by omega
  have HE := Lib.hid he
  clear he
  rw [lit717 a hF.size hF.defers, hF.s0, hF.s1, hF.s2, hF.s7, hF.s8, hF.s9, hF.s10, hF.s11, hF.s12, h13, h16]
  clear hC hF hK h13 h16
  conv => arg 2; whnf
  go_wp2_with fail
  exact HKK.out _ ⟨rfl, rfl, rfl, rfl, rfl, rfl, rfl, rfl, rfl, rfl, rfl⟩ rfl (congrArg (Value.int .i64) HE.out.symm)
end Go.Proofs.YtocbbekciphjgaaDoor.Qd
