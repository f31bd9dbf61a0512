/- QkA, QkB: parts of the proof, one behind another. -/
import Derived.Test.YtocbbekciphjgaaDoorMz10
import Derived.Test.YtocbbekciphjgaaDoorMh1
import Derived.Test.YtocbbekciphjgaaDoorMh2
/- QkA -/
/- The reference's header of a block scalar (spec.Header): its parts, its frames, the walks of its beginning. Printed by genQk.py. -/
namespace Go.Proofs.YtocbbekciphjgaaDoor.Hr
open Go.RowKit Go.Proofs.YtocbbekciphjgaaDoor.Rdp Go.Proofs.YtocbbekciphjgaaDoor.Pa Go.Proofs.YtocbbekciphjgaaDoor.Sc Go.Proofs.YtocbbekciphjgaaDoor.Qd Go.Proofs.YtocbbekciphjgaaDoor.Bs Go.Proofs.YtocbbekciphjgaaDoor.Dq Go.Proofs.YtocbbekciphjgaaDoor.Ln
set_option linter.unusedVariables false
set_option linter.unusedSimpArgs false
noncomputable def aZ : Code := Tryd.f24.body.getD .skip
noncomputable def a0 : Code := Qd.part [0] aZ
noncomputable def a1 : Code := Qd.part [1, 0] aZ
noncomputable def a2 : Code := Qd.part [1, 1, 0] aZ
noncomputable def a4 : Code := Qd.part [1, 1, 1, 0] aZ
noncomputable def a5 : Code := Qd.part [1, 1, 1, 1, 0] aZ
noncomputable def aD1 : Code := Qd.part [1, 1, 1, 1, 1, 0] aZ
noncomputable def aD2 : Code := Qd.part [1, 1, 1, 1, 1, 1, 0] aZ
noncomputable def a15 : Code := Qd.part [1, 1, 1, 1, 1, 1, 1, 0] aZ
noncomputable def aL : Code := Qd.part [1, 1, 1, 1, 1, 1, 1, 1, 0, 0, 0] aZ
noncomputable def aE : Code := Qd.part [1, 1, 1, 1, 1, 1, 1, 1, 1, 0, 0] aZ
noncomputable def a22 : Code := Qd.part [1, 1, 1, 1, 1, 1, 1, 1, 1, 1] aZ
noncomputable def a16 : Code := Qd.part [0, 0] aL
noncomputable def a17 : Code := Qd.part [1, 0] aL
theorem aZ_eq : aZ = .seq a0 (.seq a1 (.seq a2 (.seq a4 (.seq a5 (.seq aD1 (.seq aD2 (.seq a15 (.seq (.block 0 (.loop aL)) (.seq (.block 2 aE) a22))))))))) := by kernel_rfl
theorem aL_eq : aL = .seq (.seq a16 (.cond (.tmp 112) .skip (.exit 0))) (.block 1 a17) := by kernel_rfl
theorem abody_eq : Tryd.f24.body = some aZ := by kernel_rfl
set_option maxRecDepth 1000000 in
theorem lit138 (a : Act) (h : a.tmps.size = 138) (hd : a.defers = []) : a = ⟨#[gt a 0, gt a 1, gt a 2, gt a 3, gt a 4, gt a 5, gt a 6, gt a 7, gt a 8, gt a 9, gt a 10, gt a 11, gt a 12, gt a 13, gt a 14, gt a 15, gt a 16, gt a 17, gt a 18, gt a 19, gt a 20, gt a 21, gt a 22, gt a 23, gt a 24, gt a 25, gt a 26, gt a 27, gt a 28, gt a 29, gt a 30, gt a 31, gt a 32, gt a 33, gt a 34, gt a 35, gt a 36, gt a 37, gt a 38, gt a 39, gt a 40, gt a 41, gt a 42, gt a 43, gt a 44, gt a 45, gt a 46, gt a 47, gt a 48, gt a 49, gt a 50, gt a 51, gt a 52, gt a 53, gt a 54, gt a 55, gt a 56, gt a 57, gt a 58, gt a 59, gt a 60, gt a 61, gt a 62, gt a 63, gt a 64, gt a 65, gt a 66, gt a 67, gt a 68, gt a 69, gt a 70, gt a 71, gt a 72, gt a 73, gt a 74, gt a 75, gt a 76, gt a 77, gt a 78, gt a 79, gt a 80, gt a 81, gt a 82, gt a 83, gt a 84, gt a 85, gt a 86, gt a 87, gt a 88, gt a 89, gt a 90, gt a 91, gt a 92, gt a 93, gt a 94, gt a 95, gt a 96, gt a 97, gt a 98, gt a 99, gt a 100, gt a 101, gt a 102, gt a 103, gt a 104, gt a 105, gt a 106, gt a 107, gt a 108, gt a 109, gt a 110, gt a 111, gt a 112, gt a 113, gt a 114, gt a 115, gt a 116, gt a 117, gt a 118, gt a 119, gt a 120, gt a 121, gt a 122, gt a 123, gt a 124, gt a 125, gt a 126, gt a 127, gt a 128, gt a 129, gt a 130, gt a 131, gt a 132, gt a 133, gt a 134, gt a 135, gt a 136, gt a 137], []⟩ := act_lit 138 a h hd
/-- A frame: what has been found, and where. -/
structure Fd (n : Nat) (b cp : Nat) (ch inc : Int) (i : Nat) (v8 : Value) (a : Act) : Prop where
  size : a.tmps.size = 138
  defers : a.defers = []
  s2 : gt a 2 = .int .i64 ch
  s3 : gt a 3 = .int .i64 inc
  s5 : gt a 5 = .slice (some ⟨b, 0, none⟩) n cp
  s7 : gt a 7 = .int .i64 (i : Nat)
  s8 : gt a 8 = v8
/-- What the header's characters are. -/
structure Cd (w : World) (b cp : Nat) (zs : List Int) : Prop where
  cells : Zs w b zs
  cp0 : zs.length ≤ cp
  cp1 : cp ≤ 9223372036854775807
  len : zs.length ≤ 65536
  rg : ∀ c ∈ zs, 0 ≤ c ∧ c ≤ 1114111
theorem Cd.rg' {w : World} {b cp : Nat} {zs : List Int} (h : Cd w b cp zs) (i : Nat) (hi : i < zs.length) : 0 ≤ zs.getD i 0 ∧ zs.getD i 0 ≤ 1114111 := by
  refine h.rg _ ?_
  rw [List.getD_eq_getElem?_getD, List.getElem?_eq_getElem hi]
  exact List.getElem_mem hi
set_option maxHeartbeats 32000000 in
set_option maxRecDepth 100000 in
theorem d1y {b cp : Nat} {zs : List Int} {w : World} (hC : Cd w b cp zs) {ch inc : Int} {v8 : Value} {a : Act} {K : Act → World → Prop} {Q : Exit → Act → World → Prop} (hF : Fd zs.length b cp ch inc 0 v8 a) (h : 0 < zs.length) (h1 : 49 ≤ zs.getD 0 0) (h2 : zs.getD 0 0 ≤ 57)
    (hK : ∀ a', Fd zs.length b cp ch (zs.getD 0 0 - 48) 1 v8 a' → K a' w) :
    aD1.wp Tryd.prog (Exit.then K Q) a w := by
  have j2 : (zs.length : Int) ≤ (cp : Int) := by have := hC.cp0; omega
  have j3 : (cp : Int) ≤ 9223372036854775807 := by have := hC.cp1; omega
  have j4 : (zs.length : Int) ≤ 65536 := by have := hC.len; omega
  have l0 : decide ((0 : Int) < (zs.length : Int)) = true := decide_eq_true (by omega)
  have k0 : (0 : Int) < (zs.length : Int) := by omega
  have hrx := hC.rg' 0 h
  have cx : w.cell? ⟨b, 0, none⟩ = some (.int .i32 (zs.getD 0 0)) := hC.cells 0 h
  obtain ⟨x, HXx⟩ : ∃ x, Hid (zs.getD 0 0 = x) := ⟨_, rfl⟩
  rw [HXx.out] at hrx cx
  rw [HXx.out] at h1 h2 hK
  have e1 : decide (49 ≤ x) = true := by simpa using h1
  have e2 : decide (x ≤ 57) = true := by simpa using h2
  have HKK := Lib.hid hK
  rw [lit138 a hF.size hF.defers, hF.s2, hF.s3, hF.s5, hF.s7, hF.s8]
  clear hC hF hK h hrx
  conv => arg 2; whnf
  try simp only [List.append]
  go_wp2_with fail
  exact HKK.out _ ⟨rfl, rfl, rfl, rfl, rfl, rfl, rfl⟩
set_option maxHeartbeats 32000000 in
set_option maxRecDepth 100000 in
theorem d1n {b cp : Nat} {zs : List Int} {w : World} (hC : Cd w b cp zs) {ch inc : Int} {v8 : Value} {a : Act} {K : Act → World → Prop} {Q : Exit → Act → World → Prop} (hF : Fd zs.length b cp ch inc 0 v8 a) (h : ¬ (0 < zs.length ∧ 49 ≤ zs.getD 0 0 ∧ zs.getD 0 0 ≤ 57))
    (hK : ∀ a', Fd zs.length b cp ch inc 0 v8 a' → K a' w) :
    aD1.wp Tryd.prog (Exit.then K Q) a w := by
  have j2 : (zs.length : Int) ≤ (cp : Int) := by have := hC.cp0; omega
  have j3 : (cp : Int) ≤ 9223372036854775807 := by have := hC.cp1; omega
  have j4 : (zs.length : Int) ≤ 65536 := by have := hC.len; omega
  have HKK := Lib.hid hK
  by_cases h0 : 0 < zs.length
  · have l0 : decide ((0 : Int) < (zs.length : Int)) = true := decide_eq_true (by omega)
    have k0 : (0 : Int) < (zs.length : Int) := by omega
    have hrx := hC.rg' 0 h0
    have cx : w.cell? ⟨b, 0, none⟩ = some (.int .i32 (zs.getD 0 0)) := hC.cells 0 h0
    obtain ⟨x, HXx⟩ : ∃ x, Hid (zs.getD 0 0 = x) := ⟨_, rfl⟩
    rw [HXx.out] at hrx cx
    rw [HXx.out] at h
    by_cases h1 : 49 ≤ x
    · have e1 : decide (49 ≤ x) = true := by simpa using h1
      have h2 : ¬ x ≤ 57 := fun h2 => h ⟨h0, h1, h2⟩
      have e2 : decide (x ≤ 57) = false := by simpa using h2
      rw [lit138 a hF.size hF.defers, hF.s2, hF.s3, hF.s5, hF.s7, hF.s8]
      clear hC hF hK h h0 hrx
      conv => arg 2; whnf
      try simp only [List.append]
      go_wp2_with fail
      exact HKK.out _ ⟨rfl, rfl, rfl, rfl, rfl, rfl, rfl⟩
    · have e1 : decide (49 ≤ x) = false := by simpa using h1
      rw [lit138 a hF.size hF.defers, hF.s2, hF.s3, hF.s5, hF.s7, hF.s8]
      clear hC hF hK h h0 hrx
      conv => arg 2; whnf
      try simp only [List.append]
      go_wp2_with fail
      exact HKK.out _ ⟨rfl, rfl, rfl, rfl, rfl, rfl, rfl⟩
  · have l0 : decide ((0 : Int) < (zs.length : Int)) = false := decide_eq_false (by omega)
    have k0 : ¬ ((0 : Int) < (zs.length : Int)) := by omega
    rw [lit138 a hF.size hF.defers, hF.s2, hF.s3, hF.s5, hF.s7, hF.s8]
    clear hC hF hK h h0
    conv => arg 2; whnf
    try simp only [List.append]
    go_wp2_with fail
    exact HKK.out _ ⟨rfl, rfl, rfl, rfl, rfl, rfl, rfl⟩
set_option maxHeartbeats 32000000 in
set_option maxRecDepth 100000 in
theorem d2n0 {b cp : Nat} {zs : List Int} {w : World} (hC : Cd w b cp zs) {ch inc : Int} {v8 : Value} {a : Act} {K : Act → World → Prop} {Q : Exit → Act → World → Prop} (hF : Fd zs.length b cp ch inc 0 v8 a) (h : ¬ (0 < zs.length ∧ (zs.getD 0 0 = 45 ∨ zs.getD 0 0 = 43)))
    (hK : ∀ a', Fd zs.length b cp ch inc 0 v8 a' → K a' w) :
    aD2.wp Tryd.prog (Exit.then K Q) a w := by
  have j2 : (zs.length : Int) ≤ (cp : Int) := by have := hC.cp0; omega
  have j3 : (cp : Int) ≤ 9223372036854775807 := by have := hC.cp1; omega
  have j4 : (zs.length : Int) ≤ 65536 := by have := hC.len; omega
  have HKK := Lib.hid hK
  by_cases h0 : 0 < zs.length
  · have l0 : decide ((0 : Int) < (zs.length : Int)) = true := decide_eq_true (by omega)
    have k0 : (0 : Int) < (zs.length : Int) := by omega
    have hrx := hC.rg' 0 h0
    have cx : w.cell? ⟨b, 0, none⟩ = some (.int .i32 (zs.getD 0 0)) := hC.cells 0 h0
    obtain ⟨x, HXx⟩ : ∃ x, Hid (zs.getD 0 0 = x) := ⟨_, rfl⟩
    rw [HXx.out] at hrx cx
    rw [HXx.out] at h
    have e1 : (x == 45) = false := nb (fun e => h ⟨h0, .inl e⟩)
    have e2 : (x == 43) = false := nb (fun e => h ⟨h0, .inr e⟩)
    rw [lit138 a hF.size hF.defers, hF.s2, hF.s3, hF.s5, hF.s7, hF.s8]
    clear hC hF hK h h0 hrx
    conv => arg 2; whnf
    try simp only [List.append]
    go_wp2_with fail
    exact HKK.out _ ⟨rfl, rfl, rfl, rfl, rfl, rfl, rfl⟩
  · have l0 : decide ((0 : Int) < (zs.length : Int)) = false := decide_eq_false (by omega)
    have k0 : ¬ ((0 : Int) < (zs.length : Int)) := by omega
    rw [lit138 a hF.size hF.defers, hF.s2, hF.s3, hF.s5, hF.s7, hF.s8]
    clear hC hF hK h h0
    conv => arg 2; whnf
    try simp only [List.append]
    go_wp2_with fail
    exact HKK.out _ ⟨rfl, rfl, rfl, rfl, rfl, rfl, rfl⟩
set_option maxHeartbeats 32000000 in
set_option maxRecDepth 100000 in
theorem d2n1 {b cp : Nat} {zs : List Int} {w : World} (hC : Cd w b cp zs) {ch inc : Int} {v8 : Value} {a : Act} {K : Act → World → Prop} {Q : Exit → Act → World → Prop} (hF : Fd zs.length b cp ch inc 1 v8 a) (h : ¬ (1 < zs.length ∧ (zs.getD 1 0 = 45 ∨ zs.getD 1 0 = 43)))
    (hK : ∀ a', Fd zs.length b cp ch inc 1 v8 a' → K a' w) :
    aD2.wp Tryd.prog (Exit.then K Q) a w := by
  have j2 : (zs.length : Int) ≤ (cp : Int) := by have := hC.cp0; omega
  have j3 : (cp : Int) ≤ 9223372036854775807 := by have := hC.cp1; omega
  have j4 : (zs.length : Int) ≤ 65536 := by have := hC.len; omega
  have HKK := Lib.hid hK
  by_cases h0 : 1 < zs.length
  · have l1 : decide ((1 : Int) < (zs.length : Int)) = true := decide_eq_true (by omega)
    have k1 : (1 : Int) < (zs.length : Int) := by omega
    have hrx := hC.rg' 1 h0
    have cx : w.cell? ⟨b, 1, none⟩ = some (.int .i32 (zs.getD 1 0)) := hC.cells 1 h0
    obtain ⟨x, HXx⟩ : ∃ x, Hid (zs.getD 1 0 = x) := ⟨_, rfl⟩
    rw [HXx.out] at hrx cx
    rw [HXx.out] at h
    have e1 : (x == 45) = false := nb (fun e => h ⟨h0, .inl e⟩)
    have e2 : (x == 43) = false := nb (fun e => h ⟨h0, .inr e⟩)
    rw [lit138 a hF.size hF.defers, hF.s2, hF.s3, hF.s5, hF.s7, hF.s8]
    clear hC hF hK h h0 hrx
    conv => arg 2; whnf
    try simp only [List.append]
    go_wp2_with fail
    exact HKK.out _ ⟨rfl, rfl, rfl, rfl, rfl, rfl, rfl⟩
  · have l1 : decide ((1 : Int) < (zs.length : Int)) = false := decide_eq_false (by omega)
    have k1 : ¬ ((1 : Int) < (zs.length : Int)) := by omega
    rw [lit138 a hF.size hF.defers, hF.s2, hF.s3, hF.s5, hF.s7, hF.s8]
    clear hC hF hK h h0
    conv => arg 2; whnf
    try simp only [List.append]
    go_wp2_with fail
    exact HKK.out _ ⟨rfl, rfl, rfl, rfl, rfl, rfl, rfl⟩
set_option maxHeartbeats 32000000 in
set_option maxRecDepth 100000 in
theorem d2d43 {b cp : Nat} {zs : List Int} {w : World} (hC : Cd w b cp zs) {ch inc : Int} {v8 : Value} {a : Act} {K : Act → World → Prop} {Q : Exit → Act → World → Prop} (hF : Fd zs.length b cp ch inc 1 v8 a) (h : 1 < zs.length) (hsg : zs.getD 1 0 = 43) (hi : inc ≠ 0)
    (hK : ∀ a', Fd zs.length b cp 2 inc 2 v8 a' → K a' w) :
    aD2.wp Tryd.prog (Exit.then K Q) a w := by
  have j2 : (zs.length : Int) ≤ (cp : Int) := by have := hC.cp0; omega
  have j3 : (cp : Int) ≤ 9223372036854775807 := by have := hC.cp1; omega
  have j4 : (zs.length : Int) ≤ 65536 := by have := hC.len; omega
  have l1 : decide ((1 : Int) < (zs.length : Int)) = true := decide_eq_true (by omega)
  have k1 : (1 : Int) < (zs.length : Int) := by omega
  have hrx := hC.rg' 1 h
  have cx : w.cell? ⟨b, 1, none⟩ = some (.int .i32 (zs.getD 1 0)) := hC.cells 1 h
  obtain ⟨x, HXx⟩ : ∃ x, Hid (zs.getD 1 0 = x) := ⟨_, rfl⟩
  rw [HXx.out] at hrx cx
  rw [HXx.out] at hsg
  have q1 : (x == 45) = false := by rw [hsg]; rfl
  have q2 : (x == 43) = true := by rw [hsg]; rfl
  have q3 : (inc == 0) = false := nb hi
  have HKK := Lib.hid hK
  rw [lit138 a hF.size hF.defers, hF.s2, hF.s3, hF.s5, hF.s7, hF.s8]
  clear hC hF hK h hrx hsg hi
  conv => arg 2; whnf
  try simp only [List.append]
  go_wp2_with fail
  exact HKK.out _ ⟨rfl, rfl, rfl, rfl, rfl, rfl, rfl⟩
set_option maxHeartbeats 32000000 in
set_option maxRecDepth 100000 in
theorem d2d45 {b cp : Nat} {zs : List Int} {w : World} (hC : Cd w b cp zs) {ch inc : Int} {v8 : Value} {a : Act} {K : Act → World → Prop} {Q : Exit → Act → World → Prop} (hF : Fd zs.length b cp ch inc 1 v8 a) (h : 1 < zs.length) (hsg : zs.getD 1 0 = 45) (hi : inc ≠ 0)
    (hK : ∀ a', Fd zs.length b cp 0 inc 2 v8 a' → K a' w) :
    aD2.wp Tryd.prog (Exit.then K Q) a w := by
  have j2 : (zs.length : Int) ≤ (cp : Int) := by have := hC.cp0; omega
  have j3 : (cp : Int) ≤ 9223372036854775807 := by have := hC.cp1; omega
  have j4 : (zs.length : Int) ≤ 65536 := by have := hC.len; omega
  have l1 : decide ((1 : Int) < (zs.length : Int)) = true := decide_eq_true (by omega)
  have k1 : (1 : Int) < (zs.length : Int) := by omega
  have hrx := hC.rg' 1 h
  have cx : w.cell? ⟨b, 1, none⟩ = some (.int .i32 (zs.getD 1 0)) := hC.cells 1 h
  obtain ⟨x, HXx⟩ : ∃ x, Hid (zs.getD 1 0 = x) := ⟨_, rfl⟩
  rw [HXx.out] at hrx cx
  rw [HXx.out] at hsg
  have q1 : (x == 45) = true := by rw [hsg]; rfl
  have q2 : (x == 43) = false := by rw [hsg]; rfl
  have q3 : (inc == 0) = false := nb hi
  have HKK := Lib.hid hK
  rw [lit138 a hF.size hF.defers, hF.s2, hF.s3, hF.s5, hF.s7, hF.s8]
  clear hC hF hK h hrx hsg hi
  conv => arg 2; whnf
  try simp only [List.append]
  go_wp2_with fail
  exact HKK.out _ ⟨rfl, rfl, rfl, rfl, rfl, rfl, rfl⟩
set_option maxHeartbeats 32000000 in
set_option maxRecDepth 100000 in
theorem d2s43 {b cp : Nat} {zs : List Int} {w : World} (hC : Cd w b cp zs) {ch : Int} {v8 : Value} {a : Act} {K : Act → World → Prop} {Q : Exit → Act → World → Prop} (hF : Fd zs.length b cp ch 0 0 v8 a) (h : 0 < zs.length) (hsg : zs.getD 0 0 = 43) (hn : ¬ (1 < zs.length ∧ 49 ≤ zs.getD 1 0 ∧ zs.getD 1 0 ≤ 57)) (hlen : zs.length ≤ 1)
    (hK : ∀ a', Fd zs.length b cp 2 0 1 v8 a' → K a' w) :
    aD2.wp Tryd.prog (Exit.then K Q) a w := by
  have j2 : (zs.length : Int) ≤ (cp : Int) := by have := hC.cp0; omega
  have j3 : (cp : Int) ≤ 9223372036854775807 := by have := hC.cp1; omega
  have j4 : (zs.length : Int) ≤ 65536 := by have := hC.len; omega
  have l0 : decide ((0 : Int) < (zs.length : Int)) = true := decide_eq_true (by omega)
  have k0 : (0 : Int) < (zs.length : Int) := by omega
  have hrx := hC.rg' 0 h
  have cx : w.cell? ⟨b, 0, none⟩ = some (.int .i32 (zs.getD 0 0)) := hC.cells 0 h
  obtain ⟨x, HXx⟩ : ∃ x, Hid (zs.getD 0 0 = x) := ⟨_, rfl⟩
  rw [HXx.out] at hrx cx
  rw [HXx.out] at hsg
  have q1 : (x == 45) = false := by rw [hsg]; rfl
  have q2 : (x == 43) = true := by rw [hsg]; rfl
  have l1 : decide ((1 : Int) < (zs.length : Int)) = false := decide_eq_false (by omega)
  have k1 : ¬ ((1 : Int) < (zs.length : Int)) := by omega
  have HKK := Lib.hid hK
  rw [lit138 a hF.size hF.defers, hF.s2, hF.s3, hF.s5, hF.s7, hF.s8]
  clear hC hF hK h hrx hsg hn hlen
  conv => arg 2; whnf
  try simp only [List.append]
  go_wp2_with fail
  exact HKK.out _ ⟨rfl, rfl, rfl, rfl, rfl, rfl, rfl⟩
set_option maxHeartbeats 32000000 in
set_option maxRecDepth 100000 in
theorem d2s45 {b cp : Nat} {zs : List Int} {w : World} (hC : Cd w b cp zs) {ch : Int} {v8 : Value} {a : Act} {K : Act → World → Prop} {Q : Exit → Act → World → Prop} (hF : Fd zs.length b cp ch 0 0 v8 a) (h : 0 < zs.length) (hsg : zs.getD 0 0 = 45) (hn : ¬ (1 < zs.length ∧ 49 ≤ zs.getD 1 0 ∧ zs.getD 1 0 ≤ 57)) (hlen : zs.length ≤ 1)
    (hK : ∀ a', Fd zs.length b cp 0 0 1 v8 a' → K a' w) :
    aD2.wp Tryd.prog (Exit.then K Q) a w := by
  have j2 : (zs.length : Int) ≤ (cp : Int) := by have := hC.cp0; omega
  have j3 : (cp : Int) ≤ 9223372036854775807 := by have := hC.cp1; omega
  have j4 : (zs.length : Int) ≤ 65536 := by have := hC.len; omega
  have l0 : decide ((0 : Int) < (zs.length : Int)) = true := decide_eq_true (by omega)
  have k0 : (0 : Int) < (zs.length : Int) := by omega
  have hrx := hC.rg' 0 h
  have cx : w.cell? ⟨b, 0, none⟩ = some (.int .i32 (zs.getD 0 0)) := hC.cells 0 h
  obtain ⟨x, HXx⟩ : ∃ x, Hid (zs.getD 0 0 = x) := ⟨_, rfl⟩
  rw [HXx.out] at hrx cx
  rw [HXx.out] at hsg
  have q1 : (x == 45) = true := by rw [hsg]; rfl
  have q2 : (x == 43) = false := by rw [hsg]; rfl
  have l1 : decide ((1 : Int) < (zs.length : Int)) = false := decide_eq_false (by omega)
  have k1 : ¬ ((1 : Int) < (zs.length : Int)) := by omega
  have HKK := Lib.hid hK
  rw [lit138 a hF.size hF.defers, hF.s2, hF.s3, hF.s5, hF.s7, hF.s8]
  clear hC hF hK h hrx hsg hn hlen
  conv => arg 2; whnf
  try simp only [List.append]
  go_wp2_with fail
  exact HKK.out _ ⟨rfl, rfl, rfl, rfl, rfl, rfl, rfl⟩
set_option maxHeartbeats 32000000 in
set_option maxRecDepth 100000 in
theorem d2l43 {b cp : Nat} {zs : List Int} {w : World} (hC : Cd w b cp zs) {ch : Int} {v8 : Value} {a : Act} {K : Act → World → Prop} {Q : Exit → Act → World → Prop} (hF : Fd zs.length b cp ch 0 0 v8 a) (h : 0 < zs.length) (hsg : zs.getD 0 0 = 43) (h' : 1 < zs.length) (h1 : zs.getD 1 0 < 49)
    (hK : ∀ a', Fd zs.length b cp 2 0 1 v8 a' → K a' w) :
    aD2.wp Tryd.prog (Exit.then K Q) a w := by
  have j2 : (zs.length : Int) ≤ (cp : Int) := by have := hC.cp0; omega
  have j3 : (cp : Int) ≤ 9223372036854775807 := by have := hC.cp1; omega
  have j4 : (zs.length : Int) ≤ 65536 := by have := hC.len; omega
  have l0 : decide ((0 : Int) < (zs.length : Int)) = true := decide_eq_true (by omega)
  have k0 : (0 : Int) < (zs.length : Int) := by omega
  have hrx := hC.rg' 0 h
  have cx : w.cell? ⟨b, 0, none⟩ = some (.int .i32 (zs.getD 0 0)) := hC.cells 0 h
  obtain ⟨x, HXx⟩ : ∃ x, Hid (zs.getD 0 0 = x) := ⟨_, rfl⟩
  rw [HXx.out] at hrx cx
  rw [HXx.out] at hsg
  have q1 : (x == 45) = false := by rw [hsg]; rfl
  have q2 : (x == 43) = true := by rw [hsg]; rfl
  have l1 : decide ((1 : Int) < (zs.length : Int)) = true := decide_eq_true (by omega)
  have k1 : (1 : Int) < (zs.length : Int) := by omega
  have hry := hC.rg' 1 h'
  have cy : w.cell? ⟨b, 1, none⟩ = some (.int .i32 (zs.getD 1 0)) := hC.cells 1 h'
  obtain ⟨y, HXy⟩ : ∃ y, Hid (zs.getD 1 0 = y) := ⟨_, rfl⟩
  rw [HXy.out] at hry cy
  rw [HXy.out] at h1
  have e1 : decide (49 ≤ y) = false := by simp; omega
  have HKK := Lib.hid hK
  rw [lit138 a hF.size hF.defers, hF.s2, hF.s3, hF.s5, hF.s7, hF.s8]
  clear hC hF hK h hrx hsg hry h'
  conv => arg 2; whnf
  try simp only [List.append]
  go_wp2_with fail
  exact HKK.out _ ⟨rfl, rfl, rfl, rfl, rfl, rfl, rfl⟩
set_option maxHeartbeats 32000000 in
set_option maxRecDepth 100000 in
theorem d2l45 {b cp : Nat} {zs : List Int} {w : World} (hC : Cd w b cp zs) {ch : Int} {v8 : Value} {a : Act} {K : Act → World → Prop} {Q : Exit → Act → World → Prop} (hF : Fd zs.length b cp ch 0 0 v8 a) (h : 0 < zs.length) (hsg : zs.getD 0 0 = 45) (h' : 1 < zs.length) (h1 : zs.getD 1 0 < 49)
    (hK : ∀ a', Fd zs.length b cp 0 0 1 v8 a' → K a' w) :
    aD2.wp Tryd.prog (Exit.then K Q) a w := by
  have j2 : (zs.length : Int) ≤ (cp : Int) := by have := hC.cp0; omega
  have j3 : (cp : Int) ≤ 9223372036854775807 := by have := hC.cp1; omega
  have j4 : (zs.length : Int) ≤ 65536 := by have := hC.len; omega
  have l0 : decide ((0 : Int) < (zs.length : Int)) = true := decide_eq_true (by omega)
  have k0 : (0 : Int) < (zs.length : Int) := by omega
  have hrx := hC.rg' 0 h
  have cx : w.cell? ⟨b, 0, none⟩ = some (.int .i32 (zs.getD 0 0)) := hC.cells 0 h
  obtain ⟨x, HXx⟩ : ∃ x, Hid (zs.getD 0 0 = x) := ⟨_, rfl⟩
  rw [HXx.out] at hrx cx
  rw [HXx.out] at hsg
  have q1 : (x == 45) = true := by rw [hsg]; rfl
  have q2 : (x == 43) = false := by rw [hsg]; rfl
  have l1 : decide ((1 : Int) < (zs.length : Int)) = true := decide_eq_true (by omega)
  have k1 : (1 : Int) < (zs.length : Int) := by omega
  have hry := hC.rg' 1 h'
  have cy : w.cell? ⟨b, 1, none⟩ = some (.int .i32 (zs.getD 1 0)) := hC.cells 1 h'
  obtain ⟨y, HXy⟩ : ∃ y, Hid (zs.getD 1 0 = y) := ⟨_, rfl⟩
  rw [HXy.out] at hry cy
  rw [HXy.out] at h1
  have e1 : decide (49 ≤ y) = false := by simp; omega
  have HKK := Lib.hid hK
  rw [lit138 a hF.size hF.defers, hF.s2, hF.s3, hF.s5, hF.s7, hF.s8]
  clear hC hF hK h hrx hsg hry h'
  conv => arg 2; whnf
  try simp only [List.append]
  go_wp2_with fail
  exact HKK.out _ ⟨rfl, rfl, rfl, rfl, rfl, rfl, rfl⟩
set_option maxHeartbeats 32000000 in
set_option maxRecDepth 100000 in
theorem d2g43 {b cp : Nat} {zs : List Int} {w : World} (hC : Cd w b cp zs) {ch : Int} {v8 : Value} {a : Act} {K : Act → World → Prop} {Q : Exit → Act → World → Prop} (hF : Fd zs.length b cp ch 0 0 v8 a) (h : 0 < zs.length) (hsg : zs.getD 0 0 = 43) (h' : 1 < zs.length) (h1 : 49 ≤ zs.getD 1 0) (h2 : 57 < zs.getD 1 0)
    (hK : ∀ a', Fd zs.length b cp 2 0 1 v8 a' → K a' w) :
    aD2.wp Tryd.prog (Exit.then K Q) a w := by
  have j2 : (zs.length : Int) ≤ (cp : Int) := by have := hC.cp0; omega
  have j3 : (cp : Int) ≤ 9223372036854775807 := by have := hC.cp1; omega
  have j4 : (zs.length : Int) ≤ 65536 := by have := hC.len; omega
  have l0 : decide ((0 : Int) < (zs.length : Int)) = true := decide_eq_true (by omega)
  have k0 : (0 : Int) < (zs.length : Int) := by omega
  have hrx := hC.rg' 0 h
  have cx : w.cell? ⟨b, 0, none⟩ = some (.int .i32 (zs.getD 0 0)) := hC.cells 0 h
  obtain ⟨x, HXx⟩ : ∃ x, Hid (zs.getD 0 0 = x) := ⟨_, rfl⟩
  rw [HXx.out] at hrx cx
  rw [HXx.out] at hsg
  have q1 : (x == 45) = false := by rw [hsg]; rfl
  have q2 : (x == 43) = true := by rw [hsg]; rfl
  have l1 : decide ((1 : Int) < (zs.length : Int)) = true := decide_eq_true (by omega)
  have k1 : (1 : Int) < (zs.length : Int) := by omega
  have hry := hC.rg' 1 h'
  have cy : w.cell? ⟨b, 1, none⟩ = some (.int .i32 (zs.getD 1 0)) := hC.cells 1 h'
  obtain ⟨y, HXy⟩ : ∃ y, Hid (zs.getD 1 0 = y) := ⟨_, rfl⟩
  rw [HXy.out] at hry cy
  rw [HXy.out] at h1 h2
  have e1 : decide (49 ≤ y) = true := by simp; omega
  have e2 : decide (y ≤ 57) = false := by simp; omega
  have HKK := Lib.hid hK
  rw [lit138 a hF.size hF.defers, hF.s2, hF.s3, hF.s5, hF.s7, hF.s8]
  clear hC hF hK h hrx hsg hry h'
  conv => arg 2; whnf
  try simp only [List.append]
  go_wp2_with fail
  exact HKK.out _ ⟨rfl, rfl, rfl, rfl, rfl, rfl, rfl⟩
set_option maxHeartbeats 32000000 in
set_option maxRecDepth 100000 in
theorem d2g45 {b cp : Nat} {zs : List Int} {w : World} (hC : Cd w b cp zs) {ch : Int} {v8 : Value} {a : Act} {K : Act → World → Prop} {Q : Exit → Act → World → Prop} (hF : Fd zs.length b cp ch 0 0 v8 a) (h : 0 < zs.length) (hsg : zs.getD 0 0 = 45) (h' : 1 < zs.length) (h1 : 49 ≤ zs.getD 1 0) (h2 : 57 < zs.getD 1 0)
    (hK : ∀ a', Fd zs.length b cp 0 0 1 v8 a' → K a' w) :
    aD2.wp Tryd.prog (Exit.then K Q) a w := by
  have j2 : (zs.length : Int) ≤ (cp : Int) := by have := hC.cp0; omega
  have j3 : (cp : Int) ≤ 9223372036854775807 := by have := hC.cp1; omega
  have j4 : (zs.length : Int) ≤ 65536 := by have := hC.len; omega
  have l0 : decide ((0 : Int) < (zs.length : Int)) = true := decide_eq_true (by omega)
  have k0 : (0 : Int) < (zs.length : Int) := by omega
  have hrx := hC.rg' 0 h
  have cx : w.cell? ⟨b, 0, none⟩ = some (.int .i32 (zs.getD 0 0)) := hC.cells 0 h
  obtain ⟨x, HXx⟩ : ∃ x, Hid (zs.getD 0 0 = x) := ⟨_, rfl⟩
  rw [HXx.out] at hrx cx
  rw [HXx.out] at hsg
  have q1 : (x == 45) = true := by rw [hsg]; rfl
  have q2 : (x == 43) = false := by rw [hsg]; rfl
  have l1 : decide ((1 : Int) < (zs.length : Int)) = true := decide_eq_true (by omega)
  have k1 : (1 : Int) < (zs.length : Int) := by omega
  have hry := hC.rg' 1 h'
  have cy : w.cell? ⟨b, 1, none⟩ = some (.int .i32 (zs.getD 1 0)) := hC.cells 1 h'
  obtain ⟨y, HXy⟩ : ∃ y, Hid (zs.getD 1 0 = y) := ⟨_, rfl⟩
  rw [HXy.out] at hry cy
  rw [HXy.out] at h1 h2
  have e1 : decide (49 ≤ y) = true := by simp; omega
  have e2 : decide (y ≤ 57) = false := by simp; omega
  have HKK := Lib.hid hK
  rw [lit138 a hF.size hF.defers, hF.s2, hF.s3, hF.s5, hF.s7, hF.s8]
  clear hC hF hK h hrx hsg hry h'
  conv => arg 2; whnf
  try simp only [List.append]
  go_wp2_with fail
  exact HKK.out _ ⟨rfl, rfl, rfl, rfl, rfl, rfl, rfl⟩
set_option maxHeartbeats 32000000 in
set_option maxRecDepth 100000 in
theorem d2y43 {b cp : Nat} {zs : List Int} {w : World} (hC : Cd w b cp zs) {ch : Int} {v8 : Value} {a : Act} {K : Act → World → Prop} {Q : Exit → Act → World → Prop} (hF : Fd zs.length b cp ch 0 0 v8 a) (h : 0 < zs.length) (hsg : zs.getD 0 0 = 43) (h' : 1 < zs.length) (h1 : 49 ≤ zs.getD 1 0) (h2 : zs.getD 1 0 ≤ 57)
    (hK : ∀ a', Fd zs.length b cp 2 (zs.getD 1 0 - 48) 2 v8 a' → K a' w) :
    aD2.wp Tryd.prog (Exit.then K Q) a w := by
  have j2 : (zs.length : Int) ≤ (cp : Int) := by have := hC.cp0; omega
  have j3 : (cp : Int) ≤ 9223372036854775807 := by have := hC.cp1; omega
  have j4 : (zs.length : Int) ≤ 65536 := by have := hC.len; omega
  have l0 : decide ((0 : Int) < (zs.length : Int)) = true := decide_eq_true (by omega)
  have k0 : (0 : Int) < (zs.length : Int) := by omega
  have hrx := hC.rg' 0 h
  have cx : w.cell? ⟨b, 0, none⟩ = some (.int .i32 (zs.getD 0 0)) := hC.cells 0 h
  obtain ⟨x, HXx⟩ : ∃ x, Hid (zs.getD 0 0 = x) := ⟨_, rfl⟩
  rw [HXx.out] at hrx cx
  rw [HXx.out] at hsg
  have q1 : (x == 45) = false := by rw [hsg]; rfl
  have q2 : (x == 43) = true := by rw [hsg]; rfl
  have l1 : decide ((1 : Int) < (zs.length : Int)) = true := decide_eq_true (by omega)
  have k1 : (1 : Int) < (zs.length : Int) := by omega
  have hry := hC.rg' 1 h'
  have cy : w.cell? ⟨b, 1, none⟩ = some (.int .i32 (zs.getD 1 0)) := hC.cells 1 h'
  obtain ⟨y, HXy⟩ : ∃ y, Hid (zs.getD 1 0 = y) := ⟨_, rfl⟩
  rw [HXy.out] at hry cy
  rw [HXy.out] at h1 h2 hK
  have e1 : decide (49 ≤ y) = true := by simpa using h1
  have e2 : decide (y ≤ 57) = true := by simpa using h2
  have HKK := Lib.hid hK
  rw [lit138 a hF.size hF.defers, hF.s2, hF.s3, hF.s5, hF.s7, hF.s8]
  clear hC hF hK h hrx hsg hry h'
  conv => arg 2; whnf
  try simp only [List.append]
  go_wp2_with fail
  exact HKK.out _ ⟨rfl, rfl, rfl, rfl, rfl, rfl, rfl⟩
set_option maxHeartbeats 32000000 in
set_option maxRecDepth 100000 in
theorem d2y45 {b cp : Nat} {zs : List Int} {w : World} (hC : Cd w b cp zs) {ch : Int} {v8 : Value} {a : Act} {K : Act → World → Prop} {Q : Exit → Act → World → Prop} (hF : Fd zs.length b cp ch 0 0 v8 a) (h : 0 < zs.length) (hsg : zs.getD 0 0 = 45) (h' : 1 < zs.length) (h1 : 49 ≤ zs.getD 1 0) (h2 : zs.getD 1 0 ≤ 57)
    (hK : ∀ a', Fd zs.length b cp 0 (zs.getD 1 0 - 48) 2 v8 a' → K a' w) :
    aD2.wp Tryd.prog (Exit.then K Q) a w := by
  have j2 : (zs.length : Int) ≤ (cp : Int) := by have := hC.cp0; omega
  have j3 : (cp : Int) ≤ 9223372036854775807 := by have := hC.cp1; omega
  have j4 : (zs.length : Int) ≤ 65536 := by have := hC.len; omega
  have l0 : decide ((0 : Int) < (zs.length : Int)) = true := decide_eq_true (by omega)
  have k0 : (0 : Int) < (zs.length : Int) := by omega
  have hrx := hC.rg' 0 h
  have cx : w.cell? ⟨b, 0, none⟩ = some (.int .i32 (zs.getD 0 0)) := hC.cells 0 h
  obtain ⟨x, HXx⟩ : ∃ x, Hid (zs.getD 0 0 = x) := ⟨_, rfl⟩
  rw [HXx.out] at hrx cx
  rw [HXx.out] at hsg
  have q1 : (x == 45) = true := by rw [hsg]; rfl
  have q2 : (x == 43) = false := by rw [hsg]; rfl
  have l1 : decide ((1 : Int) < (zs.length : Int)) = true := decide_eq_true (by omega)
  have k1 : (1 : Int) < (zs.length : Int) := by omega
  have hry := hC.rg' 1 h'
  have cy : w.cell? ⟨b, 1, none⟩ = some (.int .i32 (zs.getD 1 0)) := hC.cells 1 h'
  obtain ⟨y, HXy⟩ : ∃ y, Hid (zs.getD 1 0 = y) := ⟨_, rfl⟩
  rw [HXy.out] at hry cy
  rw [HXy.out] at h1 h2 hK
  have e1 : decide (49 ≤ y) = true := by simpa using h1
  have e2 : decide (y ≤ 57) = true := by simpa using h2
  have HKK := Lib.hid hK
  rw [lit138 a hF.size hF.defers, hF.s2, hF.s3, hF.s5, hF.s7, hF.s8]
  clear hC hF hK h hrx hsg hry h'
  conv => arg 2; whnf
  try simp only [List.append]
  go_wp2_with fail
  exact HKK.out _ ⟨rfl, rfl, rfl, rfl, rfl, rfl, rfl⟩
end Go.Proofs.YtocbbekciphjgaaDoor.Hr
/- QkB -/
/- The reference's header of a block scalar (spec.Header): its white, its ends, the walks. Printed by genQk.py. -/
namespace Go.Proofs.YtocbbekciphjgaaDoor.Hr
open Go.RowKit Go.Proofs.YtocbbekciphjgaaDoor.Rdp Go.Proofs.YtocbbekciphjgaaDoor.Pa Go.Proofs.YtocbbekciphjgaaDoor.Sc Go.Proofs.YtocbbekciphjgaaDoor.Qd Go.Proofs.YtocbbekciphjgaaDoor.Bs Go.Proofs.YtocbbekciphjgaaDoor.Dq Go.Proofs.YtocbbekciphjgaaDoor.Ln
set_option linter.unusedVariables false
set_option linter.unusedSimpArgs false
set_option maxHeartbeats 32000000 in
set_option maxRecDepth 100000 in
theorem s15 {b cp : Nat} {zs : List Int} {w : World} (hC : Cd w b cp zs) {ch inc : Int} {v8 : Value} {a : Act} {K : Act → World → Prop} {Q : Exit → Act → World → Prop} {i : Nat} (hF : Fd zs.length b cp ch inc i v8 a)
    (hK : ∀ a', Fd zs.length b cp ch inc i (.bool false) a' → K a' w) :
    a15.wp Tryd.prog (Exit.then K Q) a w := by
  have HKK := Lib.hid hK
  rw [lit138 a hF.size hF.defers, hF.s2, hF.s3, hF.s5, hF.s7, hF.s8]
  clear hC hF hK
  conv => arg 2; whnf
  go_wp2_with fail
  exact HKK.out _ ⟨rfl, rfl, rfl, rfl, rfl, rfl, rfl⟩
set_option maxHeartbeats 32000000 in
set_option maxRecDepth 100000 in
theorem s16 {b cp : Nat} {zs : List Int} {w : World} (hC : Cd w b cp zs) {ch inc : Int} {v8 : Value} {a : Act} {K : Act → World → Prop} {Q : Exit → Act → World → Prop} {i : Nat} (hF : Fd zs.length b cp ch inc i v8 a)
    (hK : ∀ a', Fd zs.length b cp ch inc i v8 a' → gt a' 112 = .bool (decide (i < zs.length) && wh (zs.getD i 0)) → K a' w) :
    a16.wp Tryd.prog (Exit.then K Q) a w := by
  have j2 : (zs.length : Int) ≤ (cp : Int) := by have := hC.cp0; omega
  have j3 : (cp : Int) ≤ 9223372036854775807 := by have := hC.cp1; omega
  have j4 : (zs.length : Int) ≤ 65536 := by have := hC.len; omega
  have hwh := fun x W => white_any x W
  by_cases h : i < zs.length
  · have l0 : decide ((i : Int) < (zs.length : Int)) = true := by simp; omega
    have k0 : (i : Int) < (zs.length : Int) := by omega
    have hrx := hC.rg' i h
    have cx : w.cell? ⟨b, i, none⟩ = some (.int .i32 (zs.getD i 0)) := hC.cells i h
    obtain ⟨x, HXx⟩ : ∃ x, Hid (zs.getD i 0 = x) := ⟨_, rfl⟩
    rw [HXx.out] at hrx cx
    rw [HXx.out, show decide (i < zs.length) = true by simpa using h] at hK
    obtain ⟨q, hq⟩ : ∃ q, wh x = q := ⟨_, rfl⟩
    have hwx := white_any x w
    rw [hq] at hK hwx
    have HWX := Lib.hid hwx
    have HKK := Lib.hid hK
    rw [lit138 a hF.size hF.defers, hF.s2, hF.s3, hF.s5, hF.s7, hF.s8]
    clear hC hF hK h hrx hwh hq hwx
    conv => arg 2; whnf
    try simp only [List.append]
    go_wp2_with fail
    refine HWX.out.mono ?_
    rintro e w' ⟨rfl, rfl⟩
    go_wp2_with fail
    exact HKK.out _ ⟨rfl, rfl, rfl, rfl, rfl, rfl, rfl⟩ rfl
  · have l0 : decide ((i : Int) < (zs.length : Int)) = false := by simp; omega
    have k0 : ¬ ((i : Int) < (zs.length : Int)) := by omega
    rw [show decide (i < zs.length) = false by simpa using h] at hK
    have HKK := Lib.hid hK
    rw [lit138 a hF.size hF.defers, hF.s2, hF.s3, hF.s5, hF.s7, hF.s8]
    clear hC hF hK h hwh
    conv => arg 2; whnf
    try simp only [List.append]
    go_wp2_with fail
    exact HKK.out _ ⟨rfl, rfl, rfl, rfl, rfl, rfl, rfl⟩ rfl
set_option maxHeartbeats 32000000 in
set_option maxRecDepth 100000 in
theorem s17 {b cp : Nat} {zs : List Int} {w : World} (hC : Cd w b cp zs) {ch inc : Int} {v8 : Value} {a : Act} {K : Act → World → Prop} {Q : Exit → Act → World → Prop} {i : Nat} (hF : Fd zs.length b cp ch inc i v8 a) (hi : i ≤ 65536)
    (hK : ∀ a', Fd zs.length b cp ch inc (i + 1) (.bool true) a' → K a' w) :
    a17.wp Tryd.prog (Exit.then K Q) a w := by
  have j1 : (i : Int) ≤ 65536 := by omega
  have HKK := Lib.hid hK
  rw [lit138 a hF.size hF.defers, hF.s2, hF.s3, hF.s5, hF.s7, hF.s8]
  clear hC hF hK
  conv => arg 2; whnf
  go_wp2_with fail
  exact HKK.out _ ⟨rfl, rfl, rfl, rfl, rfl, rfl, rfl⟩
set_option maxHeartbeats 32000000 in
set_option maxRecDepth 100000 in
theorem e1 {b cp : Nat} {zs : List Int} {w : World} (hC : Cd w b cp zs) {ch inc : Int} {v8 : Bool} {a : Act} {K : Act → World → Prop} {Q : Exit → Act → World → Prop} {i : Nat} (hF : Fd zs.length b cp ch inc i (.bool v8) a) (h : i = zs.length)
    (hX : ∀ a', a'.defers = [] → gt a' 2 = .int .i64 ch → gt a' 3 = .int .i64 inc → gt a' 4 = .int .i64 2 → Q .ret a' w) :
    (Code.seq (.block 2 aE) a22).wp Tryd.prog (Exit.then K Q) a w := by
  have j2 : (zs.length : Int) ≤ (cp : Int) := by have := hC.cp0; omega
  have j3 : (cp : Int) ≤ 9223372036854775807 := by have := hC.cp1; omega
  have j4 : (zs.length : Int) ≤ 65536 := by have := hC.len; omega
  have l0 : ((i : Int) == (zs.length : Int)) = true := by simp [h]
  have HXX := Lib.hid hX
  rw [lit138 a hF.size hF.defers, hF.s2, hF.s3, hF.s5, hF.s7, hF.s8]
  clear hC hF hX h
  conv => arg 2; whnf
  try simp only [List.append]
  go_wp2_with fail
  conv => arg 2; whnf
  try simp only [List.append]
  go_wp2_with fail
  (try simp only [Exit.inBlock, Exit.then])
  first
    | exact HXX.out _ rfl rfl rfl rfl
    | (conv => arg 2; whnf
       go_wp2_with fail
       exact HXX.out _ rfl rfl rfl rfl)
set_option maxHeartbeats 32000000 in
set_option maxRecDepth 100000 in
theorem e2 {b cp : Nat} {zs : List Int} {w : World} (hC : Cd w b cp zs) {ch inc : Int} {a : Act} {K : Act → World → Prop} {Q : Exit → Act → World → Prop} {i : Nat} (hF : Fd zs.length b cp ch inc i (.bool true) a) (h : i < zs.length) (h1 : zs.getD i 0 = 35)
    (hX : ∀ a', a'.defers = [] → gt a' 2 = .int .i64 ch → gt a' 3 = .int .i64 inc → gt a' 4 = .int .i64 2 → Q .ret a' w) :
    (Code.seq (.block 2 aE) a22).wp Tryd.prog (Exit.then K Q) a w := by
  have j2 : (zs.length : Int) ≤ (cp : Int) := by have := hC.cp0; omega
  have j3 : (cp : Int) ≤ 9223372036854775807 := by have := hC.cp1; omega
  have j4 : (zs.length : Int) ≤ 65536 := by have := hC.len; omega
  have l0 : ((i : Int) == (zs.length : Int)) = false := by simp; omega
  have k0 : (i : Int) < (zs.length : Int) := by omega
  have hrx := hC.rg' i h
  have cx : w.cell? ⟨b, i, none⟩ = some (.int .i32 (zs.getD i 0)) := hC.cells i h
  obtain ⟨x, HXx⟩ : ∃ x, Hid (zs.getD i 0 = x) := ⟨_, rfl⟩
  rw [HXx.out] at hrx cx
  rw [HXx.out] at h1
  have q1 : (x == 35) = true := by rw [h1]; rfl
  have HXX := Lib.hid hX
  rw [lit138 a hF.size hF.defers, hF.s2, hF.s3, hF.s5, hF.s7, hF.s8]
  clear hC hF hX h hrx h1
  conv => arg 2; whnf
  try simp only [List.append]
  go_wp2_with fail
  conv => arg 2; whnf
  try simp only [List.append]
  go_wp2_with fail
  (try simp only [Exit.inBlock, Exit.then])
  first
    | exact HXX.out _ rfl rfl rfl rfl
    | (conv => arg 2; whnf
       go_wp2_with fail
       exact HXX.out _ rfl rfl rfl rfl)
set_option maxHeartbeats 32000000 in
set_option maxRecDepth 100000 in
theorem e3 {b cp : Nat} {zs : List Int} {w : World} (hC : Cd w b cp zs) {ch inc : Int} {a : Act} {K : Act → World → Prop} {Q : Exit → Act → World → Prop} {i : Nat} (hF : Fd zs.length b cp ch inc i (.bool false) a) (h : i < zs.length) (h1 : zs.getD i 0 = 35)
    (hX : ∀ a', a'.defers = [] → gt a' 2 = .int .i64 0 → gt a' 3 = .int .i64 0 → gt a' 4 = .int .i64 0 → Q .ret a' w) :
    (Code.seq (.block 2 aE) a22).wp Tryd.prog (Exit.then K Q) a w := by
  have j2 : (zs.length : Int) ≤ (cp : Int) := by have := hC.cp0; omega
  have j3 : (cp : Int) ≤ 9223372036854775807 := by have := hC.cp1; omega
  have j4 : (zs.length : Int) ≤ 65536 := by have := hC.len; omega
  have l0 : ((i : Int) == (zs.length : Int)) = false := by simp; omega
  have k0 : (i : Int) < (zs.length : Int) := by omega
  have hrx := hC.rg' i h
  have cx : w.cell? ⟨b, i, none⟩ = some (.int .i32 (zs.getD i 0)) := hC.cells i h
  obtain ⟨x, HXx⟩ : ∃ x, Hid (zs.getD i 0 = x) := ⟨_, rfl⟩
  rw [HXx.out] at hrx cx
  rw [HXx.out] at h1
  have q1 : (x == 35) = true := by rw [h1]; rfl
  have HXX := Lib.hid hX
  rw [lit138 a hF.size hF.defers, hF.s2, hF.s3, hF.s5, hF.s7, hF.s8]
  clear hC hF hX h hrx h1
  conv => arg 2; whnf
  try simp only [List.append]
  go_wp2_with fail
  conv => arg 2; whnf
  try simp only [List.append]
  go_wp2_with fail
  (try simp only [Exit.inBlock, Exit.then])
  first
    | exact HXX.out _ rfl rfl rfl rfl
    | (conv => arg 2; whnf
       go_wp2_with fail
       exact HXX.out _ rfl rfl rfl rfl)
set_option maxHeartbeats 32000000 in
set_option maxRecDepth 100000 in
theorem e4t {b cp : Nat} {zs : List Int} {w : World} (hC : Cd w b cp zs) {ch inc : Int} {a : Act} {K : Act → World → Prop} {Q : Exit → Act → World → Prop} {i : Nat} (hF : Fd zs.length b cp ch inc i (.bool true) a) (h : i < zs.length) (h1 : zs.getD i 0 ≠ 35)
    (hX : ∀ a', a'.defers = [] → gt a' 2 = .int .i64 0 → gt a' 3 = .int .i64 0 → gt a' 4 = .int .i64 1 → Q .ret a' w) :
    (Code.seq (.block 2 aE) a22).wp Tryd.prog (Exit.then K Q) a w := by
  have j2 : (zs.length : Int) ≤ (cp : Int) := by have := hC.cp0; omega
  have j3 : (cp : Int) ≤ 9223372036854775807 := by have := hC.cp1; omega
  have j4 : (zs.length : Int) ≤ 65536 := by have := hC.len; omega
  have l0 : ((i : Int) == (zs.length : Int)) = false := by simp; omega
  have k0 : (i : Int) < (zs.length : Int) := by omega
  have hrx := hC.rg' i h
  have cx : w.cell? ⟨b, i, none⟩ = some (.int .i32 (zs.getD i 0)) := hC.cells i h
  obtain ⟨x, HXx⟩ : ∃ x, Hid (zs.getD i 0 = x) := ⟨_, rfl⟩
  rw [HXx.out] at hrx cx
  rw [HXx.out] at h1
  have q1 : (x == 35) = false := nb h1
  have HXX := Lib.hid hX
  rw [lit138 a hF.size hF.defers, hF.s2, hF.s3, hF.s5, hF.s7, hF.s8]
  clear hC hF hX h hrx h1
  conv => arg 2; whnf
  try simp only [List.append]
  go_wp2_with fail
  conv => arg 2; whnf
  try simp only [List.append]
  go_wp2_with fail
  (try simp only [Exit.inBlock, Exit.then])
  first
    | exact HXX.out _ rfl rfl rfl rfl
    | (conv => arg 2; whnf
       go_wp2_with fail
       exact HXX.out _ rfl rfl rfl rfl)
set_option maxHeartbeats 32000000 in
set_option maxRecDepth 100000 in
theorem e4f {b cp : Nat} {zs : List Int} {w : World} (hC : Cd w b cp zs) {ch inc : Int} {a : Act} {K : Act → World → Prop} {Q : Exit → Act → World → Prop} {i : Nat} (hF : Fd zs.length b cp ch inc i (.bool false) a) (h : i < zs.length) (h1 : zs.getD i 0 ≠ 35)
    (hX : ∀ a', a'.defers = [] → gt a' 2 = .int .i64 0 → gt a' 3 = .int .i64 0 → gt a' 4 = .int .i64 1 → Q .ret a' w) :
    (Code.seq (.block 2 aE) a22).wp Tryd.prog (Exit.then K Q) a w := by
  have j2 : (zs.length : Int) ≤ (cp : Int) := by have := hC.cp0; omega
  have j3 : (cp : Int) ≤ 9223372036854775807 := by have := hC.cp1; omega
  have j4 : (zs.length : Int) ≤ 65536 := by have := hC.len; omega
  have l0 : ((i : Int) == (zs.length : Int)) = false := by simp; omega
  have k0 : (i : Int) < (zs.length : Int) := by omega
  have hrx := hC.rg' i h
  have cx : w.cell? ⟨b, i, none⟩ = some (.int .i32 (zs.getD i 0)) := hC.cells i h
  obtain ⟨x, HXx⟩ : ∃ x, Hid (zs.getD i 0 = x) := ⟨_, rfl⟩
  rw [HXx.out] at hrx cx
  rw [HXx.out] at h1
  have q1 : (x == 35) = false := nb h1
  have HXX := Lib.hid hX
  rw [lit138 a hF.size hF.defers, hF.s2, hF.s3, hF.s5, hF.s7, hF.s8]
  clear hC hF hX h hrx h1
  conv => arg 2; whnf
  try simp only [List.append]
  go_wp2_with fail
  conv => arg 2; whnf
  try simp only [List.append]
  go_wp2_with fail
  (try simp only [Exit.inBlock, Exit.then])
  first
    | exact HXX.out _ rfl rfl rfl rfl
    | (conv => arg 2; whnf
       go_wp2_with fail
       exact HXX.out _ rfl rfl rfl rfl)
end Go.Proofs.YtocbbekciphjgaaDoor.Hr
