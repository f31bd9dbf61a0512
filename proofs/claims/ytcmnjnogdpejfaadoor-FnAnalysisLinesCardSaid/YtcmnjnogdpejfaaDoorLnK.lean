/- yaml_emitter_analyze_scalar whole. Printed by genLnE.py. -/
import Derived.Test.YtcmnjnogdpejfaaDoorLnJ
namespace Go.Proofs.YtcmnjnogdpejfaaDoor.Ln
open Go.RowKit
set_option linter.unusedVariables false
set_option linter.unusedSimpArgs false
theorem wp_seq_hid {P : Program} {Q : Exit → Act → World → Prop} {a : Act} {w : World} {x y : Code} (h : ∀ K : Act → World → Prop, Hid (∀ a w, y.wp P Q a w → K a w) → x.wp P (Exit.then K Q) a w) : (Code.seq x y).wp P Q a w :=
  wp_seq_k fun K hK => h K (Lib.hid hK)
set_option maxHeartbeats 32000000 in
set_option maxRecDepth 100000 in
theorem scal_any (p b cp : Nat) (u : Bool) (s : ByteArray) (l : List Int) (w : World) (hm : s.size ≤ 70000) (h1 : 1 ≤ s.size) (hpb : p ≠ b) (hth : w.there p 0 55) (hfl : Scd p w) (hu : w.cell? ⟨p, 13, none⟩ = some (.bool u)) (hc : Cells w b s) (hr : Run s 0 l) (hcl : l.all cl = true) :
    Calls Tryd.prog 23 #[.pointer (some ⟨p, 0, none⟩), .slice (some ⟨b, 0, none⟩) s.size cp] w fun e w' => e = .returned (.bool true) ∧ Aft p (l.any (· == 10)) w w' := by
  obtain ⟨w1, HW1⟩ : ∃ w1 : World, Hid (w.setCell ⟨p, 38, none⟩ (.slice (some ⟨b, 0, none⟩) s.size cp) = w1) := ⟨_, rfl⟩
  have hX : Em.Ext p w w1 := by rw [← HW1.out]; exact ext_set _ _ _
  have hth1 : w1.there p 0 55 := by rw [← HW1.out]; exact Em.there_setCell hth _ _
  have hfl1 : Scd p w1 := by rw [← HW1.out]; exact hfl.set_off _ _ (by decide)
  have hu1 : w1.cell? ⟨p, 13, none⟩ = some (.bool u) := by rw [← HW1.out, World.cell?_setCell_other _ _ _ _ (by intro e; simp only [Addr.mk.injEq] at e; omega)]; exact hu
  have hc1 : Cells w1 b s := fun j hj => by rw [← HW1.out, World.cell?_setCell_other _ _ _ _ (by intro e; simp only [Addr.mk.injEq] at e; omega)]; exact hc j hj
  obtain ⟨⟨c38, hc38⟩, hf38⟩ := at_there hth 38 (by decide)
  have hmain : ∀ a, In0 p b s.size cp a → c24.wp Tryd.prog (Exit.then (cR.wp Tryd.prog (bodyPost Tryd.prog Tryd.f23 fun e w' => e = .returned (.bool true) ∧ Aft p (l.any (· == 10)) w w')) (bodyPost Tryd.prog Tryd.f23 fun e w' => e = .returned (.bool true) ∧ Aft p (l.any (· == 10)) w w')) a w1 := by
    intro a hI
    refine c24_any hI hm (fun j hj => ⟨_, hc1 j hj⟩) fun a1 i1 => ?_
    rw [cR_eq]
    refine wp_seq (c27_any i1 fun a2 i2 => ?_)
    refine wp_seq (wp_seq (c28_any i2 fun a3 i3 => ?_))
    refine wp_block (loop_any s l hm i3 hu1 hc1 hr hcl fun a4 wv4 i4 => ?_)
    simp only [Exit.inBlock, if_true]
    exact ct_any i4 hX hth1 hfl1 fun w' hA => ⟨rfl, hA⟩
  have HM := Lib.hid hmain
  obtain ⟨n, HN⟩ : ∃ n, Hid (s.size = n) := ⟨_, rfl⟩
  clear hmain hX hth1 hu1 hc1 hu hc hr hcl hth hfl hfl1
  rw [HN.out] at HM HW1 hm h1 ⊢
  have j0 : ((n : Int) == 0) = false := by rw [beq_eq_false_iff_ne]; omega
  go_enter Tryd.func23, Tryd.ntmps23
  iterate 18 (refine wp_seq_hid ?_; intro K HK; go_wp2_with fail; refine HK.out _ _ ?_; clear HK)
  rw [HW1.out]
  refine wp_seq ?_
  exact HM.out _ ⟨rfl, rfl, rfl, rfl, rfl, ⟨_, rfl⟩, ⟨_, rfl⟩, ⟨_, rfl⟩, ⟨_, rfl⟩, ⟨_, rfl⟩, ⟨_, rfl⟩, ⟨_, rfl⟩, ⟨_, rfl⟩, ⟨_, rfl⟩, ⟨_, rfl⟩, ⟨_, rfl⟩, ⟨_, rfl⟩, ⟨_, rfl⟩, ⟨_, rfl⟩⟩
set_option maxHeartbeats 32000000 in
set_option maxRecDepth 100000 in
theorem scal_nil (p cp : Nat) (A : Option Addr) (w : World) (hth : w.there p 0 55) (hfl : Scd p w) :
    Calls Tryd.prog 23 #[.pointer (some ⟨p, 0, none⟩), .slice A 0 cp] w fun e w' => e = .returned (.bool true) ∧ Aft p false w w' := by
  obtain ⟨⟨c38, hc38⟩, hf38⟩ := at_there hth 38 (by decide)
  obtain ⟨⟨c39, hc39⟩, hf39⟩ := at_there hth 39 (by decide)
  obtain ⟨⟨c40, hc40⟩, hf40⟩ := at_there hth 40 (by decide)
  obtain ⟨⟨c41, hc41⟩, hf41⟩ := at_there hth 41 (by decide)
  obtain ⟨⟨c42, hc42⟩, hf42⟩ := at_there hth 42 (by decide)
  obtain ⟨⟨c43, hc43⟩, hf43⟩ := at_there hth 43 (by decide)
  have HA := Lib.hid hth
  have HF := Lib.hid hfl
  clear hth hfl
  go_enter Tryd.func23, Tryd.ntmps23
  go_wp2_with fail
  go_ret
  refine ⟨rfl, ?_⟩
  have hq : ∀ W : World, Em.Ext p w W → W.there p 0 55 → Scd p W → Aft p false w (W.setCell ⟨p, 39, none⟩ (.bool false)) := fun W hx ht hs => ⟨hx.trans (ext_set _ _ _), Em.there_setCell ht _ _, by
    obtain ⟨⟨d39, hd39⟩, _⟩ := at_there ht 39 (by decide)
    first | (simp [hd39]; done) | go_cell, hs.set _ _⟩
  refine Aft.set (Aft.set (Aft.set (Aft.set (hq _ (ext_set _ _ _) (Em.there_setCell HA.out _ _) (HF.out.set_off _ _ (by decide))) _ _ (by decide)) _ _ (by decide)) _ _ (by decide)) _ _ (by decide)
end Go.Proofs.YtcmnjnogdpejfaaDoor.Ln
