/- The loop whole: it tells whether there is a line feed. Printed by genLnE.py. -/
import Derived.Test.YtcmnjnogdpejfaaDoorLnF
import Derived.Test.YtcmnjnogdpejfaaDoorLnG
namespace Go.Proofs.YtcmnjnogdpejfaaDoor.Ln
open Go.RowKit
set_option linter.unusedVariables false
set_option linter.unusedSimpArgs false
set_option maxHeartbeats 32000000 in
set_option maxRecDepth 100000 in
theorem cg_in {p b n cp i : Nat} {wv : Value} {lb : Bool} {a : Act} {w : World} {K : Act → World → Prop} {Q : Exit → Act → World → Prop} (hI : In p b n cp i wv lb a) (hlt : i < n)
    (hK : ∀ a', In p b n cp i wv lb a' → K a' w) : cG.wp Tryd.prog (Exit.then K Q) a w := by
  have j1 : (i : Int) < (n : Int) := by omega
  obtain ⟨v5, e5⟩ := hI.f5
  obtain ⟨v6, e6⟩ := hI.f6
  obtain ⟨v8, e8⟩ := hI.f8
  obtain ⟨v9, e9⟩ := hI.f9
  obtain ⟨v10, e10⟩ := hI.f10
  obtain ⟨v11, e11⟩ := hI.f11
  obtain ⟨v12, e12⟩ := hI.f12
  obtain ⟨v13, e13⟩ := hI.f13
  obtain ⟨v14, e14⟩ := hI.f14
  obtain ⟨v15, e15⟩ := hI.f15
  obtain ⟨v16, e16⟩ := hI.f16
  obtain ⟨v17, e17⟩ := hI.f17
  obtain ⟨v18, e18⟩ := hI.f18
  obtain ⟨v19, e19⟩ := hI.f19
  rw [lit321 a hI.size hI.defers, hI.s0, hI.s1, hI.s7, hI.s20, hI.s21, e5, e6, e8, e9, e10, e11, e12, e13, e14, e15, e16, e17, e18, e19]
  clear e5 e6 e8 e9 e10 e11 e12 e13 e14 e15 e16 e17 e18 e19
  have HKK := Lib.hid hK
  clear hK hI
  conv => arg 2; whnf
  try simp only [List.append]
  go_wp2_with fail
  exact HKK.out _ ⟨rfl, rfl, rfl, rfl, rfl, rfl, rfl, ⟨_, rfl⟩, ⟨_, rfl⟩, ⟨_, rfl⟩, ⟨_, rfl⟩, ⟨_, rfl⟩, ⟨_, rfl⟩, ⟨_, rfl⟩, ⟨_, rfl⟩, ⟨_, rfl⟩, ⟨_, rfl⟩, ⟨_, rfl⟩, ⟨_, rfl⟩, ⟨_, rfl⟩, ⟨_, rfl⟩⟩
set_option maxHeartbeats 32000000 in
set_option maxRecDepth 100000 in
theorem cg_out {p b n cp i : Nat} {wv : Value} {lb : Bool} {a : Act} {w : World} {K : Act → World → Prop} {Q : Exit → Act → World → Prop} (hI : In p b n cp i wv lb a) (hlt : i = n)
    (hQ : ∀ a', In p b n cp i wv lb a' → Q (.exit 0) a' w) : cG.wp Tryd.prog (Exit.then K Q) a w := by
  subst hlt
  have j1 : ¬ ((i : Int) < (i : Int)) := by omega
  obtain ⟨v5, e5⟩ := hI.f5
  obtain ⟨v6, e6⟩ := hI.f6
  obtain ⟨v8, e8⟩ := hI.f8
  obtain ⟨v9, e9⟩ := hI.f9
  obtain ⟨v10, e10⟩ := hI.f10
  obtain ⟨v11, e11⟩ := hI.f11
  obtain ⟨v12, e12⟩ := hI.f12
  obtain ⟨v13, e13⟩ := hI.f13
  obtain ⟨v14, e14⟩ := hI.f14
  obtain ⟨v15, e15⟩ := hI.f15
  obtain ⟨v16, e16⟩ := hI.f16
  obtain ⟨v17, e17⟩ := hI.f17
  obtain ⟨v18, e18⟩ := hI.f18
  obtain ⟨v19, e19⟩ := hI.f19
  rw [lit321 a hI.size hI.defers, hI.s0, hI.s1, hI.s7, hI.s20, hI.s21, e5, e6, e8, e9, e10, e11, e12, e13, e14, e15, e16, e17, e18, e19]
  clear e5 e6 e8 e9 e10 e11 e12 e13 e14 e15 e16 e17 e18 e19
  have HKK := Lib.hid hQ
  clear hQ hI
  conv => arg 2; whnf
  try simp only [List.append]
  go_wp2_with fail
  exact HKK.out _ ⟨rfl, rfl, rfl, rfl, rfl, rfl, rfl, ⟨_, rfl⟩, ⟨_, rfl⟩, ⟨_, rfl⟩, ⟨_, rfl⟩, ⟨_, rfl⟩, ⟨_, rfl⟩, ⟨_, rfl⟩, ⟨_, rfl⟩, ⟨_, rfl⟩, ⟨_, rfl⟩, ⟨_, rfl⟩, ⟨_, rfl⟩, ⟨_, rfl⟩, ⟨_, rfl⟩⟩
set_option maxHeartbeats 32000000 in
set_option maxRecDepth 100000 in
theorem cn {p b n cp i : Nat} {d : Nat} {lb : Bool} {a : Act} {w : World} {K : Act → World → Prop} {Q : Exit → Act → World → Prop} (hI : In p b n cp i (.int .i64 (d : Nat)) lb a) (hin : i ≤ 70000) (hd : d ≤ 4)
    (hK : ∀ a', In p b n cp (i + d) (.int .i64 (d : Nat)) lb a' → K a' w) : cN.wp Tryd.prog (Exit.then K Q) a w := by
  have he : (((i + d : Nat)) : Int) = (i : Int) + (d : Int) := Int.natCast_add _ _
  obtain ⟨v5, e5⟩ := hI.f5
  obtain ⟨v6, e6⟩ := hI.f6
  obtain ⟨v8, e8⟩ := hI.f8
  obtain ⟨v9, e9⟩ := hI.f9
  obtain ⟨v10, e10⟩ := hI.f10
  obtain ⟨v11, e11⟩ := hI.f11
  obtain ⟨v12, e12⟩ := hI.f12
  obtain ⟨v13, e13⟩ := hI.f13
  obtain ⟨v14, e14⟩ := hI.f14
  obtain ⟨v15, e15⟩ := hI.f15
  obtain ⟨v16, e16⟩ := hI.f16
  obtain ⟨v17, e17⟩ := hI.f17
  obtain ⟨v18, e18⟩ := hI.f18
  obtain ⟨v19, e19⟩ := hI.f19
  rw [lit321 a hI.size hI.defers, hI.s0, hI.s1, hI.s7, hI.s20, hI.s21, e5, e6, e8, e9, e10, e11, e12, e13, e14, e15, e16, e17, e18, e19]
  clear e5 e6 e8 e9 e10 e11 e12 e13 e14 e15 e16 e17 e18 e19
  have HKK := Lib.hid hK
  have HE := Lib.hid he
  clear hK hI he
  conv => arg 2; whnf
  try simp only [List.append]
  go_wp2_with fail
  exact HKK.out _ ⟨rfl, rfl, rfl, rfl, rfl, congrArg (Value.int .i64) HE.out.symm, rfl, ⟨_, rfl⟩, ⟨_, rfl⟩, ⟨_, rfl⟩, ⟨_, rfl⟩, ⟨_, rfl⟩, ⟨_, rfl⟩, ⟨_, rfl⟩, ⟨_, rfl⟩, ⟨_, rfl⟩, ⟨_, rfl⟩, ⟨_, rfl⟩, ⟨_, rfl⟩, ⟨_, rfl⟩, ⟨_, rfl⟩⟩
theorem then_self (Q : Exit → Act → World → Prop) : Exit.then (fun a w => Q .normal a w) Q = Q := by
  funext e a w
  cases e <;> rfl
theorem then_block (k : Nat) (K : Act → World → Prop) (Q : Exit → Act → World → Prop) : Exit.inBlock k (Exit.then K Q) = Exit.then K (Exit.inBlock k (Exit.then K Q)) := by
  funext e a w
  cases e <;> rfl
/-- The characters of the text, in memory. -/
def Cells (w : World) (b : Nat) (s : ByteArray) : Prop := ∀ j, j < s.size → w.cell? ⟨b, j, none⟩ = some (.int .u8 ((bt s j : Nat) : Int))
theorem round_any {p b n cp i : Nat} {wv : Value} {lb u : Bool} {a : Act} {w : World} {K : Act → World → Prop} {Q : Exit → Act → World → Prop} (s : ByteArray) (hn : n = s.size) (hm : n ≤ 70000) (hI : In p b n cp i wv lb a) (hu : w.cell? ⟨p, 13, none⟩ = some (.bool u)) (hc : Cells w b s)
    (hlt : i < n) (hne : ¬ ((Utf8.decode s i).1 = 65533 ∧ (Utf8.decode s i).2 = 1)) (hcl : cl (Int.ofNat (Utf8.decode s i).1) = true)
    (hK : ∀ a' wv', In p b n cp (i + (Utf8.decode s i).2) wv' (lb || (Int.ofNat (Utf8.decode s i).1 == 10)) a' → K a' w) : lB.wp Tryd.prog (Exit.then K Q) a w := by
  subst hn
  obtain ⟨hk, h194, h224, hwd, hle, h1, h10⟩ := char_ok s i hlt hne hcl
  rw [← h10] at hK
  obtain ⟨d, hd⟩ : ∃ d, (Utf8.decode s i).2 = d := ⟨_, rfl⟩
  rw [hd] at hwd hle h1 hK
  have hd4 : d ≤ 4 := by
    have h : Wd.wd (bt s i) ≤ 4 := by
      unfold Wd.wd
      repeat' split
      all_goals omega
    omega
  have hx := hc i hlt
  have hl : Lay w b i s.size (bt s i) (bt s (i + 1)) (bt s (i + 2)) := ⟨hlt, hx, fun h => ⟨h194 (by omega), hc _ (h194 (by omega))⟩, fun h => ⟨h224 (by omega), hc _ (h224 (by omega))⟩⟩
  have hx0 := hk.x0
  have hx1 := hk.x1
  rw [lB_eq]
  refine wp_seq (cg_in hI hlt fun a1 i1 => ?_)
  refine wp_seq (wp_block ?_)
  rw [then_block]
  refine wp_seq (ca i1 hlt hm _ hx hx0 (by omega) d hwd.symm hd4 fun a2 i2 => ?_)
  refine wp_seq (cf i2 hlt hm hd4 (fun hq => ⟨_, by have := bt_lt s (i + d); omega, by have := bt_lt s (i + d); omega, hc _ hq⟩) fun a3 i3 => ?_)
  refine wp_seq (cx i3 hlt hm _ hx fun a4 i4 => ?_)
  refine wp_seq (cy i4 hlt hm _ hx _ _ hk hl u hu fun a5 i5 => ?_)
  refine wp_seq (cz i5 hlt hm _ hx _ _ hk hl d hwd.symm hd4 fun a6 i6 => ?_)
  refine ce i6 hlt hm _ hx _ _ hk hl fun a7 i7 => ?_
  exact cn i7 (by omega) hd4 fun a8 i8 => hK a8 _ i8
theorem run_end {s : ByteArray} {l : List Int} {i : Nat} (h : Run s i l) (hi : i = s.size) : l = [] := by
  cases h with
  | done => rfl
  | step h _ _ => omega
theorem loop_any {p b cp : Nat} {wv : Value} {u : Bool} {a : Act} {w : World} {Q : Exit → Act → World → Prop} (s : ByteArray) (l : List Int) (hm : s.size ≤ 70000) (hI : In p b s.size cp 0 wv false a) (hu : w.cell? ⟨p, 13, none⟩ = some (.bool u)) (hc : Cells w b s)
    (hr : Run s 0 l) (hcl : l.all cl = true)
    (hQ : ∀ a' wv', In p b s.size cp s.size wv' (l.any (· == 10)) a' → Q (.exit 0) a' w) : (Code.loop lB).wp Tryd.prog Q a w := by
  refine wp_loop_ghost_k (fun g a1 w1 => ∃ i lb wv l', g = s.size - i ∧ w1 = w ∧ In p b s.size cp i wv lb a1 ∧ i ≤ s.size ∧ Run s i l' ∧ l'.all cl = true ∧ (lb || l'.any (· == 10)) = l.any (· == 10)) s.size ⟨0, false, wv, l, rfl, rfl, hI, Nat.zero_le _, hr, hcl, by simp⟩ ?_
  rintro g a1 w1 ⟨i, lb, wv1, l', rfl, rfl, hI1, hi, hr1, hcl1, hM⟩ J K hJ hK
  cases hr1 with
  | done =>
    have hlb : lb = l.any (· == 10) := by simpa using hM
    rw [hlb] at hI1
    rw [lB_eq]
    refine wp_seq (cg_out hI1 rfl fun a2 i2 => ?_)
    exact hQ a2 _ i2
  | step hlt hne hrest =>
    rw [List.all_cons, Bool.and_eq_true] at hcl1
    rw [List.any_cons, ← Bool.or_assoc] at hM
    have hle := (char_ok s i hlt hne hcl1.1).2.2.2.2
    refine round_any s rfl hm hI1 hu hc hlt hne hcl1.1 fun a2 wv2 i2 => hK _ _ (Handed.intro (s.size - (i + (Utf8.decode s i).2)) (by omega) (hJ _ _ _ ⟨_, _, _, _, rfl, rfl, i2, hle.1, hrest, hcl1.2, hM⟩))
end Go.Proofs.YtcmnjnogdpejfaaDoor.Ln
