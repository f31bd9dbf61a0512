/- The loop's stages: the first, and other, characters' switches. Printed by genLnE.py. -/
import Derived.Test.YtcmnjnogdpejfaaDoorLnE
namespace Go.Proofs.YtcmnjnogdpejfaaDoor.Ln
open Go.RowKit
set_option linter.unusedVariables false
set_option linter.unusedSimpArgs false
set_option maxHeartbeats 32000000 in
set_option maxRecDepth 100000 in
theorem c1c {p b n cp i : Nat} {wv : Value} {lb : Bool} {a : Act} {w : World} {K : Act → World → Prop} {Q : Exit → Act → World → Prop} (hI : In p b n cp i wv lb a) (x : Int) (hx : gt a 119 = .int .u8 x)
    (hK : ∀ a', In p b n cp i wv lb a' → gt a' 119 = .int .u8 x → (∃ t, gt a' 120 = .bool t) → K a' w) : c1C.wp Tryd.prog (Exit.then K Q) a w := by
  obtain ⟨v5, e5⟩ := hI.f5
  obtain ⟨v6, e6⟩ := hI.f6
  obtain ⟨v8, e8⟩ := hI.f8
  obtain ⟨v9, e9⟩ := hI.f9
  obtain ⟨v10, e10⟩ := hI.f10
  obtain ⟨v11, e11⟩ := hI.f11
  obtain ⟨v12, e12⟩ := hI.f12
  obtain ⟨v13, e13⟩ := hI.f13
  obtain ⟨v14, e14⟩ := hI.f14
  obtain ⟨v15, e15⟩ := hI.f15
  obtain ⟨v16, e16⟩ := hI.f16
  obtain ⟨v17, e17⟩ := hI.f17
  obtain ⟨v18, e18⟩ := hI.f18
  obtain ⟨v19, e19⟩ := hI.f19
  rw [lit321 a hI.size hI.defers, hI.s0, hI.s1, hI.s7, hI.s20, hI.s21, e5, e6, e8, e9, e10, e11, e12, e13, e14, e15, e16, e17, e18, e19]
  clear e5 e6 e8 e9 e10 e11 e12 e13 e14 e15 e16 e17 e18 e19
  have HKK := Lib.hid hK
  clear hK hI
  conv => arg 2; whnf
  try simp only [List.append]
  rw [hx]
  repeat' (first | exact HKK.out _ ⟨rfl, rfl, rfl, rfl, rfl, rfl, rfl, ⟨_, rfl⟩, ⟨_, rfl⟩, ⟨_, rfl⟩, ⟨_, rfl⟩, ⟨_, rfl⟩, ⟨_, rfl⟩, ⟨_, rfl⟩, ⟨_, rfl⟩, ⟨_, rfl⟩, ⟨_, rfl⟩, ⟨_, rfl⟩, ⟨_, rfl⟩, ⟨_, rfl⟩, ⟨_, rfl⟩⟩ rfl ⟨_, rfl⟩ | refine wp_cond_split rfl (fun _ => ?_) (fun _ => ?_) | go_wp2_with fail)
set_option maxHeartbeats 32000000 in
set_option maxRecDepth 100000 in
theorem c2c {p b n cp i : Nat} {wv : Value} {lb : Bool} {a : Act} {w : World} {K : Act → World → Prop} {Q : Exit → Act → World → Prop} (hI : In p b n cp i wv lb a) (x : Int) (hx : gt a 147 = .int .u8 x)
    (hK : ∀ a', In p b n cp i wv lb a' → gt a' 147 = .int .u8 x → (∃ t, gt a' 148 = .bool t) → K a' w) : c2C.wp Tryd.prog (Exit.then K Q) a w := by
  obtain ⟨v5, e5⟩ := hI.f5
  obtain ⟨v6, e6⟩ := hI.f6
  obtain ⟨v8, e8⟩ := hI.f8
  obtain ⟨v9, e9⟩ := hI.f9
  obtain ⟨v10, e10⟩ := hI.f10
  obtain ⟨v11, e11⟩ := hI.f11
  obtain ⟨v12, e12⟩ := hI.f12
  obtain ⟨v13, e13⟩ := hI.f13
  obtain ⟨v14, e14⟩ := hI.f14
  obtain ⟨v15, e15⟩ := hI.f15
  obtain ⟨v16, e16⟩ := hI.f16
  obtain ⟨v17, e17⟩ := hI.f17
  obtain ⟨v18, e18⟩ := hI.f18
  obtain ⟨v19, e19⟩ := hI.f19
  rw [lit321 a hI.size hI.defers, hI.s0, hI.s1, hI.s7, hI.s20, hI.s21, e5, e6, e8, e9, e10, e11, e12, e13, e14, e15, e16, e17, e18, e19]
  clear e5 e6 e8 e9 e10 e11 e12 e13 e14 e15 e16 e17 e18 e19
  have HKK := Lib.hid hK
  clear hK hI
  conv => arg 2; whnf
  try simp only [List.append]
  rw [hx]
  repeat' (first | exact HKK.out _ ⟨rfl, rfl, rfl, rfl, rfl, rfl, rfl, ⟨_, rfl⟩, ⟨_, rfl⟩, ⟨_, rfl⟩, ⟨_, rfl⟩, ⟨_, rfl⟩, ⟨_, rfl⟩, ⟨_, rfl⟩, ⟨_, rfl⟩, ⟨_, rfl⟩, ⟨_, rfl⟩, ⟨_, rfl⟩, ⟨_, rfl⟩, ⟨_, rfl⟩, ⟨_, rfl⟩⟩ rfl ⟨_, rfl⟩ | refine wp_cond_split rfl (fun _ => ?_) (fun _ => ?_) | go_wp2_with fail)
set_option maxHeartbeats 32000000 in
set_option maxRecDepth 100000 in
theorem c1d {p b n cp i : Nat} {wv : Value} {lb : Bool} {a : Act} {w : World} {K : Act → World → Prop} {Q : Exit → Act → World → Prop} (hI : In p b n cp i wv lb a) (x : Int) (hx : gt a 119 = .int .u8 x) (ht : ∃ t, gt a 120 = .bool t)
    (hK : ∀ a', In p b n cp i wv lb a' → K a' w) : c1D.wp Tryd.prog (Exit.then K Q) a w := by
  obtain ⟨t, ht⟩ := ht
  obtain ⟨v5, e5⟩ := hI.f5
  obtain ⟨v6, e6⟩ := hI.f6
  obtain ⟨v8, e8⟩ := hI.f8
  obtain ⟨v9, e9⟩ := hI.f9
  obtain ⟨v10, e10⟩ := hI.f10
  obtain ⟨v11, e11⟩ := hI.f11
  obtain ⟨v12, e12⟩ := hI.f12
  obtain ⟨v13, e13⟩ := hI.f13
  obtain ⟨v14, e14⟩ := hI.f14
  obtain ⟨v15, e15⟩ := hI.f15
  obtain ⟨v16, e16⟩ := hI.f16
  obtain ⟨v17, e17⟩ := hI.f17
  obtain ⟨v18, e18⟩ := hI.f18
  obtain ⟨v19, e19⟩ := hI.f19
  rw [lit321 a hI.size hI.defers, hI.s0, hI.s1, hI.s7, hI.s20, hI.s21, e5, e6, e8, e9, e10, e11, e12, e13, e14, e15, e16, e17, e18, e19]
  clear e5 e6 e8 e9 e10 e11 e12 e13 e14 e15 e16 e17 e18 e19
  have HKK := Lib.hid hK
  clear hK hI
  conv => arg 2; whnf
  try simp only [List.append]
  rw [hx, ht]
  repeat' (first | exact HKK.out _ ⟨rfl, rfl, rfl, rfl, rfl, rfl, rfl, ⟨_, rfl⟩, ⟨_, rfl⟩, ⟨_, rfl⟩, ⟨_, rfl⟩, ⟨_, rfl⟩, ⟨_, rfl⟩, ⟨_, rfl⟩, ⟨_, rfl⟩, ⟨_, rfl⟩, ⟨_, rfl⟩, ⟨_, rfl⟩, ⟨_, rfl⟩, ⟨_, rfl⟩, ⟨_, rfl⟩⟩ | refine wp_cond_split rfl (fun _ => ?_) (fun _ => ?_) | go_wp2_with fail)
set_option maxHeartbeats 32000000 in
set_option maxRecDepth 100000 in
theorem c2d {p b n cp i : Nat} {wv : Value} {lb : Bool} {a : Act} {w : World} {K : Act → World → Prop} {Q : Exit → Act → World → Prop} (hI : In p b n cp i wv lb a) (x : Int) (hx : gt a 147 = .int .u8 x) (ht : ∃ t, gt a 148 = .bool t)
    (hK : ∀ a', In p b n cp i wv lb a' → K a' w) : c2D.wp Tryd.prog (Exit.then K Q) a w := by
  obtain ⟨t, ht⟩ := ht
  obtain ⟨v5, e5⟩ := hI.f5
  obtain ⟨v6, e6⟩ := hI.f6
  obtain ⟨v8, e8⟩ := hI.f8
  obtain ⟨v9, e9⟩ := hI.f9
  obtain ⟨v10, e10⟩ := hI.f10
  obtain ⟨v11, e11⟩ := hI.f11
  obtain ⟨v12, e12⟩ := hI.f12
  obtain ⟨v13, e13⟩ := hI.f13
  obtain ⟨v14, e14⟩ := hI.f14
  obtain ⟨v15, e15⟩ := hI.f15
  obtain ⟨v16, e16⟩ := hI.f16
  obtain ⟨v17, e17⟩ := hI.f17
  obtain ⟨v18, e18⟩ := hI.f18
  obtain ⟨v19, e19⟩ := hI.f19
  rw [lit321 a hI.size hI.defers, hI.s0, hI.s1, hI.s7, hI.s20, hI.s21, e5, e6, e8, e9, e10, e11, e12, e13, e14, e15, e16, e17, e18, e19]
  clear e5 e6 e8 e9 e10 e11 e12 e13 e14 e15 e16 e17 e18 e19
  have HKK := Lib.hid hK
  clear hK hI
  conv => arg 2; whnf
  try simp only [List.append]
  rw [hx, ht]
  repeat' (first | exact HKK.out _ ⟨rfl, rfl, rfl, rfl, rfl, rfl, rfl, ⟨_, rfl⟩, ⟨_, rfl⟩, ⟨_, rfl⟩, ⟨_, rfl⟩, ⟨_, rfl⟩, ⟨_, rfl⟩, ⟨_, rfl⟩, ⟨_, rfl⟩, ⟨_, rfl⟩, ⟨_, rfl⟩, ⟨_, rfl⟩, ⟨_, rfl⟩, ⟨_, rfl⟩, ⟨_, rfl⟩⟩ | refine wp_cond_split rfl (fun _ => ?_) (fun _ => ?_) | go_wp2_with fail)
set_option maxHeartbeats 32000000 in
set_option maxRecDepth 100000 in
theorem c1t {p b n cp i : Nat} {wv : Value} {lb : Bool} {a : Act} {w : World} {K : Act → World → Prop} {Q : Exit → Act → World → Prop} (hI : In p b n cp i wv lb a) (hlt : i < n) (hm : n ≤ 70000) (x : Int) (hx : w.cell? ⟨b, i, none⟩ = some (.int .u8 x))
    (hK : ∀ a', In p b n cp i wv lb a' → gt a' 119 = .int .u8 x → K a' w) : c1T.wp Tryd.prog (Exit.then K Q) a w := by
  have j0 : (0 : Int) ≤ (i : Int) := by omega
  have j1 : (i : Int) < (n : Int) := by omega
  obtain ⟨v5, e5⟩ := hI.f5
  obtain ⟨v6, e6⟩ := hI.f6
  obtain ⟨v8, e8⟩ := hI.f8
  obtain ⟨v9, e9⟩ := hI.f9
  obtain ⟨v10, e10⟩ := hI.f10
  obtain ⟨v11, e11⟩ := hI.f11
  obtain ⟨v12, e12⟩ := hI.f12
  obtain ⟨v13, e13⟩ := hI.f13
  obtain ⟨v14, e14⟩ := hI.f14
  obtain ⟨v15, e15⟩ := hI.f15
  obtain ⟨v16, e16⟩ := hI.f16
  obtain ⟨v17, e17⟩ := hI.f17
  obtain ⟨v18, e18⟩ := hI.f18
  obtain ⟨v19, e19⟩ := hI.f19
  rw [lit321 a hI.size hI.defers, hI.s0, hI.s1, hI.s7, hI.s20, hI.s21, e5, e6, e8, e9, e10, e11, e12, e13, e14, e15, e16, e17, e18, e19]
  clear e5 e6 e8 e9 e10 e11 e12 e13 e14 e15 e16 e17 e18 e19
  have HKK := Lib.hid hK
  clear hK hI
  conv => arg 2; whnf
  try simp only [List.append]
  go_wp2_with fail
  exact HKK.out _ ⟨rfl, rfl, rfl, rfl, rfl, rfl, rfl, ⟨_, rfl⟩, ⟨_, rfl⟩, ⟨_, rfl⟩, ⟨_, rfl⟩, ⟨_, rfl⟩, ⟨_, rfl⟩, ⟨_, rfl⟩, ⟨_, rfl⟩, ⟨_, rfl⟩, ⟨_, rfl⟩, ⟨_, rfl⟩, ⟨_, rfl⟩, ⟨_, rfl⟩, ⟨_, rfl⟩⟩ rfl
set_option maxHeartbeats 32000000 in
set_option maxRecDepth 100000 in
theorem c2t {p b n cp i : Nat} {wv : Value} {lb : Bool} {a : Act} {w : World} {K : Act → World → Prop} {Q : Exit → Act → World → Prop} (hI : In p b n cp i wv lb a) (hlt : i < n) (hm : n ≤ 70000) (x : Int) (hx : w.cell? ⟨b, i, none⟩ = some (.int .u8 x))
    (hK : ∀ a', In p b n cp i wv lb a' → gt a' 147 = .int .u8 x → K a' w) : c2T.wp Tryd.prog (Exit.then K Q) a w := by
  have j0 : (0 : Int) ≤ (i : Int) := by omega
  have j1 : (i : Int) < (n : Int) := by omega
  obtain ⟨v5, e5⟩ := hI.f5
  obtain ⟨v6, e6⟩ := hI.f6
  obtain ⟨v8, e8⟩ := hI.f8
  obtain ⟨v9, e9⟩ := hI.f9
  obtain ⟨v10, e10⟩ := hI.f10
  obtain ⟨v11, e11⟩ := hI.f11
  obtain ⟨v12, e12⟩ := hI.f12
  obtain ⟨v13, e13⟩ := hI.f13
  obtain ⟨v14, e14⟩ := hI.f14
  obtain ⟨v15, e15⟩ := hI.f15
  obtain ⟨v16, e16⟩ := hI.f16
  obtain ⟨v17, e17⟩ := hI.f17
  obtain ⟨v18, e18⟩ := hI.f18
  obtain ⟨v19, e19⟩ := hI.f19
  rw [lit321 a hI.size hI.defers, hI.s0, hI.s1, hI.s7, hI.s20, hI.s21, e5, e6, e8, e9, e10, e11, e12, e13, e14, e15, e16, e17, e18, e19]
  clear e5 e6 e8 e9 e10 e11 e12 e13 e14 e15 e16 e17 e18 e19
  have HKK := Lib.hid hK
  clear hK hI
  conv => arg 2; whnf
  try simp only [List.append]
  go_wp2_with fail
  exact HKK.out _ ⟨rfl, rfl, rfl, rfl, rfl, rfl, rfl, ⟨_, rfl⟩, ⟨_, rfl⟩, ⟨_, rfl⟩, ⟨_, rfl⟩, ⟨_, rfl⟩, ⟨_, rfl⟩, ⟨_, rfl⟩, ⟨_, rfl⟩, ⟨_, rfl⟩, ⟨_, rfl⟩, ⟨_, rfl⟩, ⟨_, rfl⟩, ⟨_, rfl⟩, ⟨_, rfl⟩⟩ rfl
set_option maxHeartbeats 32000000 in
set_option maxRecDepth 100000 in
theorem cx0 {p b n cp i : Nat} {wv : Value} {lb : Bool} {a : Act} {w : World} {K : Act → World → Prop} {Q : Exit → Act → World → Prop} (hI : In p b n cp i wv lb a) 
    (hK : ∀ a', In p b n cp i wv lb a' → (∃ t, gt a' 115 = .bool t) → K a' w) : cX0.wp Tryd.prog (Exit.then K Q) a w := by
  obtain ⟨v5, e5⟩ := hI.f5
  obtain ⟨v6, e6⟩ := hI.f6
  obtain ⟨v8, e8⟩ := hI.f8
  obtain ⟨v9, e9⟩ := hI.f9
  obtain ⟨v10, e10⟩ := hI.f10
  obtain ⟨v11, e11⟩ := hI.f11
  obtain ⟨v12, e12⟩ := hI.f12
  obtain ⟨v13, e13⟩ := hI.f13
  obtain ⟨v14, e14⟩ := hI.f14
  obtain ⟨v15, e15⟩ := hI.f15
  obtain ⟨v16, e16⟩ := hI.f16
  obtain ⟨v17, e17⟩ := hI.f17
  obtain ⟨v18, e18⟩ := hI.f18
  obtain ⟨v19, e19⟩ := hI.f19
  rw [lit321 a hI.size hI.defers, hI.s0, hI.s1, hI.s7, hI.s20, hI.s21, e5, e6, e8, e9, e10, e11, e12, e13, e14, e15, e16, e17, e18, e19]
  clear e5 e6 e8 e9 e10 e11 e12 e13 e14 e15 e16 e17 e18 e19
  have HKK := Lib.hid hK
  clear hK hI
  conv => arg 2; whnf
  try simp only [List.append]
  go_wp2_with fail
  exact HKK.out _ ⟨rfl, rfl, rfl, rfl, rfl, rfl, rfl, ⟨_, rfl⟩, ⟨_, rfl⟩, ⟨_, rfl⟩, ⟨_, rfl⟩, ⟨_, rfl⟩, ⟨_, rfl⟩, ⟨_, rfl⟩, ⟨_, rfl⟩, ⟨_, rfl⟩, ⟨_, rfl⟩, ⟨_, rfl⟩, ⟨_, rfl⟩, ⟨_, rfl⟩, ⟨_, rfl⟩⟩ ⟨_, rfl⟩
theorem cs1 {p b n cp i : Nat} {wv : Value} {lb : Bool} {a : Act} {w : World} {K : Act → World → Prop} {Q : Exit → Act → World → Prop} (hI : In p b n cp i wv lb a) (hlt : i < n) (hm : n ≤ 70000) (x : Int) (hx : w.cell? ⟨b, i, none⟩ = some (.int .u8 x))
    (hK : ∀ a', In p b n cp i wv lb a' → K a' w) : cS1.wp Tryd.prog (Exit.then K Q) a w := by
  rw [cS1_eq]
  refine wp_seq (c1t hI hlt hm x hx fun a1 h1 e1 => ?_)
  refine wp_block (wp_seq (c1c h1 x e1 fun a2 h2 e2 t2 => ?_))
  exact c1d (Q := Exit.inBlock 2 (Exit.then K Q)) (K := K) h2 x e2 t2 hK |> fun h => wp_mono h (fun e a w q => by cases e <;> exact q)
theorem cs2 {p b n cp i : Nat} {wv : Value} {lb : Bool} {a : Act} {w : World} {K : Act → World → Prop} {Q : Exit → Act → World → Prop} (hI : In p b n cp i wv lb a) (hlt : i < n) (hm : n ≤ 70000) (x : Int) (hx : w.cell? ⟨b, i, none⟩ = some (.int .u8 x))
    (hK : ∀ a', In p b n cp i wv lb a' → K a' w) : cS2.wp Tryd.prog (Exit.then K Q) a w := by
  rw [cS2_eq]
  refine wp_seq (c2t hI hlt hm x hx fun a1 h1 e1 => ?_)
  refine wp_block (wp_seq (c2c h1 x e1 fun a2 h2 e2 t2 => ?_))
  exact c2d (Q := Exit.inBlock 3 (Exit.then K Q)) (K := K) h2 x e2 t2 hK |> fun h => wp_mono h (fun e a w q => by cases e <;> exact q)
theorem cx {p b n cp i : Nat} {wv : Value} {lb : Bool} {a : Act} {w : World} {K : Act → World → Prop} {Q : Exit → Act → World → Prop} (hI : In p b n cp i wv lb a) (hlt : i < n) (hm : n ≤ 70000) (x : Int) (hx : w.cell? ⟨b, i, none⟩ = some (.int .u8 x))
    (hK : ∀ a', In p b n cp i wv lb a' → K a' w) : cX.wp Tryd.prog (Exit.then K Q) a w := by
  rw [cX_eq]
  refine wp_seq (cx0 hI fun a1 h1 e1 => ?_)
  obtain ⟨t, ht⟩ := e1
  exact wp_cond_split (t := t) (show a1.tmps.getD 115 undef = _ from ht) (fun _ => cs1 h1 hlt hm x hx hK) (fun _ => cs2 h1 hlt hm x hx hK)
end Go.Proofs.YtcmnjnogdpejfaaDoor.Ln
