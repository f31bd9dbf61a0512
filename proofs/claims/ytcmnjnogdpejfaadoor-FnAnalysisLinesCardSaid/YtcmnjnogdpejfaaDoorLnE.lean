/- The loop of yaml_emitter_analyze_scalar, taken out of it and cut into stages: the walks. Printed by genLnE.py. -/
import Derived.Test.YtcmnjnogdpejfaaDoorLnD
namespace Go.Proofs.YtcmnjnogdpejfaaDoor.Ln
open Go.RowKit
set_option linter.unusedVariables false
set_option linter.unusedSimpArgs false
/-- What a slot holds. -/
def gt (a : Act) (i : Nat) : Value := a.tmps.getD i undef
theorem act_lit (n : Nat) (a : Act) (h : a.tmps.size = n) (hd : a.defers = []) : a = ⟨(List.map (gt a) (List.range n)).toArray, []⟩ := by
  cases a with
  | mk ts ds =>
    simp only at h hd
    subst hd
    congr 1
    apply Array.ext
    · simp [h]
    · intro i h1 h2
      simp [gt, h1]
def firstLoop : Code → Option Code
  | .loop c => some c
  | .seq a b => match firstLoop a with
    | some c => some c
    | none => firstLoop b
  | .block _ c => firstLoop c
  | .scope c => firstLoop c
  | .cond _ a b => match firstLoop a with
    | some c => some c
    | none => firstLoop b
  | _ => none
/-- A part of a code: 0 the first, or inner, one; 1 the second one. -/
def child (k : Nat) : Code → Code
  | .seq a b => match k with
    | 0 => a
    | _ => b
  | .cond _ a b => match k with
    | 0 => a
    | _ => b
  | .block _ c => c
  | .loop c => c
  | c => c
def part : List Nat → Code → Code
  | [], c => c
  | k :: l, c => part l (child k c)
noncomputable def lB : Code := (Tryd.f23.body.bind firstLoop).getD .skip
noncomputable def cG : Code := part [0] lB
noncomputable def cN : Code := part [1, 1] lB
noncomputable def cIn : Code := part [1, 0, 0] lB
noncomputable def cA : Code := part [0] cIn
noncomputable def cF : Code := part [1, 0] cIn
noncomputable def cX : Code := part [1, 1, 0] cIn
noncomputable def cY : Code := part [1, 1, 1, 0] cIn
noncomputable def cZ : Code := part [1, 1, 1, 1, 0] cIn
noncomputable def cE : Code := part [1, 1, 1, 1, 1] cIn
noncomputable def cX0 : Code := part [0] cX
noncomputable def cS1 : Code := part [1, 0] cX
noncomputable def cS2 : Code := part [1, 1] cX
theorem lB_eq : lB = .seq cG (.seq (.block 1 (.seq cA (.seq cF (.seq cX (.seq cY (.seq cZ cE)))))) cN) := by kernel_rfl
theorem cX_eq : cX = .seq cX0 (.cond (.tmp 115) cS1 cS2) := by kernel_rfl
noncomputable def c1T : Code := part [0] cS1
noncomputable def c1C : Code := part [1, 0, 0] cS1
noncomputable def c1D : Code := part [1, 0, 1] cS1
noncomputable def c2T : Code := part [0] cS2
noncomputable def c2C : Code := part [1, 0, 0] cS2
noncomputable def c2D : Code := part [1, 0, 1] cS2
theorem cS1_eq : cS1 = .seq c1T (.block 2 (.seq c1C c1D)) := by kernel_rfl
theorem cS2_eq : cS2 = .seq c2T (.block 3 (.seq c2C c2D)) := by kernel_rfl
set_option maxRecDepth 1000000 in
theorem lit321 (a : Act) (h : a.tmps.size = 321) (hd : a.defers = []) : a = ⟨#[gt a 0, gt a 1, gt a 2, gt a 3, gt a 4, gt a 5, gt a 6, gt a 7, gt a 8, gt a 9, gt a 10, gt a 11, gt a 12, gt a 13, gt a 14, gt a 15, gt a 16, gt a 17, gt a 18, gt a 19, gt a 20, gt a 21, gt a 22, gt a 23, gt a 24, gt a 25, gt a 26, gt a 27, gt a 28, gt a 29, gt a 30, gt a 31, gt a 32, gt a 33, gt a 34, gt a 35, gt a 36, gt a 37, gt a 38, gt a 39, gt a 40, gt a 41, gt a 42, gt a 43, gt a 44, gt a 45, gt a 46, gt a 47, gt a 48, gt a 49, gt a 50, gt a 51, gt a 52, gt a 53, gt a 54, gt a 55, gt a 56, gt a 57, gt a 58, gt a 59, gt a 60, gt a 61, gt a 62, gt a 63, gt a 64, gt a 65, gt a 66, gt a 67, gt a 68, gt a 69, gt a 70, gt a 71, gt a 72, gt a 73, gt a 74, gt a 75, gt a 76, gt a 77, gt a 78, gt a 79, gt a 80, gt a 81, gt a 82, gt a 83, gt a 84, gt a 85, gt a 86, gt a 87, gt a 88, gt a 89, gt a 90, gt a 91, gt a 92, gt a 93, gt a 94, gt a 95, gt a 96, gt a 97, gt a 98, gt a 99, gt a 100, gt a 101, gt a 102, gt a 103, gt a 104, gt a 105, gt a 106, gt a 107, gt a 108, gt a 109, gt a 110, gt a 111, gt a 112, gt a 113, gt a 114, gt a 115, gt a 116, gt a 117, gt a 118, gt a 119, gt a 120, gt a 121, gt a 122, gt a 123, gt a 124, gt a 125, gt a 126, gt a 127, gt a 128, gt a 129, gt a 130, gt a 131, gt a 132, gt a 133, gt a 134, gt a 135, gt a 136, gt a 137, gt a 138, gt a 139, gt a 140, gt a 141, gt a 142, gt a 143, gt a 144, gt a 145, gt a 146, gt a 147, gt a 148, gt a 149, gt a 150, gt a 151, gt a 152, gt a 153, gt a 154, gt a 155, gt a 156, gt a 157, gt a 158, gt a 159, gt a 160, gt a 161, gt a 162, gt a 163, gt a 164, gt a 165, gt a 166, gt a 167, gt a 168, gt a 169, gt a 170, gt a 171, gt a 172, gt a 173, gt a 174, gt a 175, gt a 176, gt a 177, gt a 178, gt a 179, gt a 180, gt a 181, gt a 182, gt a 183, gt a 184, gt a 185, gt a 186, gt a 187, gt a 188, gt a 189, gt a 190, gt a 191, gt a 192, gt a 193, gt a 194, gt a 195, gt a 196, gt a 197, gt a 198, gt a 199, gt a 200, gt a 201, gt a 202, gt a 203, gt a 204, gt a 205, gt a 206, gt a 207, gt a 208, gt a 209, gt a 210, gt a 211, gt a 212, gt a 213, gt a 214, gt a 215, gt a 216, gt a 217, gt a 218, gt a 219, gt a 220, gt a 221, gt a 222, gt a 223, gt a 224, gt a 225, gt a 226, gt a 227, gt a 228, gt a 229, gt a 230, gt a 231, gt a 232, gt a 233, gt a 234, gt a 235, gt a 236, gt a 237, gt a 238, gt a 239, gt a 240, gt a 241, gt a 242, gt a 243, gt a 244, gt a 245, gt a 246, gt a 247, gt a 248, gt a 249, gt a 250, gt a 251, gt a 252, gt a 253, gt a 254, gt a 255, gt a 256, gt a 257, gt a 258, gt a 259, gt a 260, gt a 261, gt a 262, gt a 263, gt a 264, gt a 265, gt a 266, gt a 267, gt a 268, gt a 269, gt a 270, gt a 271, gt a 272, gt a 273, gt a 274, gt a 275, gt a 276, gt a 277, gt a 278, gt a 279, gt a 280, gt a 281, gt a 282, gt a 283, gt a 284, gt a 285, gt a 286, gt a 287, gt a 288, gt a 289, gt a 290, gt a 291, gt a 292, gt a 293, gt a 294, gt a 295, gt a 296, gt a 297, gt a 298, gt a 299, gt a 300, gt a 301, gt a 302, gt a 303, gt a 304, gt a 305, gt a 306, gt a 307, gt a 308, gt a 309, gt a 310, gt a 311, gt a 312, gt a 313, gt a 314, gt a 315, gt a 316, gt a 317, gt a 318, gt a 319, gt a 320], []⟩ := act_lit 321 a h hd
/-- A frame in the loop: the emitter, the value, the index, the width, and whether a line feed has been seen; the other marks are Booleans. -/
structure In (p b n cp i : Nat) (wv : Value) (lb : Bool) (a : Act) : Prop where
  size : a.tmps.size = 321
  defers : a.defers = []
  s0 : gt a 0 = .pointer (some ⟨p, 0, none⟩)
  s1 : gt a 1 = .slice (some ⟨b, 0, none⟩) n cp
  s7 : gt a 7 = .bool lb
  s20 : gt a 20 = .int .i64 (i : Nat)
  s21 : gt a 21 = wv
  f5 : ∃ x, gt a 5 = .bool x
  f6 : ∃ x, gt a 6 = .bool x
  f8 : ∃ x, gt a 8 = .bool x
  f9 : ∃ x, gt a 9 = .bool x
  f10 : ∃ x, gt a 10 = .bool x
  f11 : ∃ x, gt a 11 = .bool x
  f12 : ∃ x, gt a 12 = .bool x
  f13 : ∃ x, gt a 13 = .bool x
  f14 : ∃ x, gt a 14 = .bool x
  f15 : ∃ x, gt a 15 = .bool x
  f16 : ∃ x, gt a 16 = .bool x
  f17 : ∃ x, gt a 17 = .bool x
  f18 : ∃ x, gt a 18 = .bool x
  f19 : ∃ x, gt a 19 = .bool x
end Go.Proofs.YtcmnjnogdpejfaaDoor.Ln
