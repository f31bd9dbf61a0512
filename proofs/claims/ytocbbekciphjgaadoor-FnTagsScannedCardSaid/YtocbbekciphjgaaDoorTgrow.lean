/- FnTagsScanned: the row, its listed variable laid. -/
import Derived.Test.YtocbbekciphjgaaDoorRows
import Derived.Test.YtocbbekciphjgaaDoorTgL
import Derived.WalkKit
import Derived.ProofKit
import Derived.OpenShut
import Derived.ShutString
import Derived.ChangeOld
import Derived.Below
import Derived.SizedLaws
import Derived.ChangeSlices
import Derived.LaidEql
import Derived.Test.YtocbbekciphjgaaDoorZz
import Derived.Test.YtocbbekciphjgaaDoorTie
import Derived.Test.YtocbbekciphjgaaDoorCards
import Derived.SevenTiedAt
namespace Go.Proofs.YtocbbekciphjgaaDoor.fnTagsScanned
open Go.ChangeShapes Go.WideShapes Go.ChangeAt Go.RowKit
open Go.ChangeMaps (open_string shut_string)
set_option linter.unusedVariables false
theorem own : ownKnob Tryd.prog.godebug = none := by kernel_rfl
theorem comp181 : (Tryd.prog.info? 181).map (·.comparable) = some true := by kernel_rfl
theorem some209 : (Tryd.prog.info? 209).isSome = true := by kernel_rfl
theorem isEof (a : Addr) : Pa.IsEof (.iface 181 (.pointer (some a))) := by
  obtain ⟨i, hi, hcmp⟩ := Option.map_eq_some_iff.1 comp181
  obtain ⟨j, hj⟩ := Option.isSome_iff_exists.1 some209
  exact ⟨⟨_, _, rfl⟩, fun w => run_eql_iface_ptr_same (P := Tryd.prog) w a Tryd.underlying172 Tryd.underlying181 hi hcmp hj, fun w => run_eql_iface_nil_left (P := Tryd.prog) w 181 _ Tryd.underlying172⟩
set_option maxRecDepth 100000 in
theorem lifted (os : Os) (started : os.Started) (H : Type) (enc : TypeId × Value → H) :
    ReturnsInHanded {} Tryd.checked os 6 .any (fun w args => (Rows.fnTagsScannedSpec.pre enc Tryd.prog Tryd.f6 [] false w args ∧ laidMetH Tryd.prog [("io.EOF", Rows.laid_io_EOF)] w) ∧ sizedMet enc Tryd.prog Tryd.f6 (OpenSpec.ofChange Rows.fnTagsScannedSpec) false w args)
      (Rows.fnTagsScannedSpec.post enc Tryd.prog Tryd.f6 false true false false) := by
  refine returnsInHanded_of_change_and (C := Tryd.checked) (X := fun w _ => laidMetH Tryd.prog [("io.EOF", Rows.laid_io_EOF)] w) (fun _ _ _ hh h => h.of_heap hh) own started (by kernel_rfl) Tryd.func6
    (ChangeSpec.witness_at (enc := enc) (C := Tryd.checked) (os := os) (X := fun w _ => laidMetH Tryd.prog [("io.EOF", Rows.laid_io_EOF)] w) false (Eof.laidWorld os) #[.string ByteArray.empty, .string ByteArray.empty, .int .u8 0, .int .u8 0] 8 rfl (by kernel_rfl) (by kernel_rfl) (by kernel_rfl) (by kernel_rfl) (by kernel_rfl) (Eof.laidWorld_met os _)) ?_
  intro W base args ds gs before hval0 hW hcnd hsz0 hL _
  have hsz : (DataW.weightsEach Tryd.prog (Tryd.f6.params.toList ++ Rows.fnTagsScannedSpec.plain.varTypes Tryd.prog) (ds ++ gs)).all (· ≤ reachBytes) = true := hsz0
  have hval : ∀ (j : Nat) t v, Tryd.f6.params[j]? = some t → args[j]? = some v → Value.okWide Tryd.prog W .any base t v := hval0
  have hW' := hW
  obtain ⟨p, q, hA0, hV, rfl, hfz, hnd⟩ := hW
  have hA : DataW.TrodAll enc Tryd.prog W 0 (fun _ => true) true Tryd.f6.params.toList args.toList ds p := hA0
  rw [Tryd.params6] at hA hval hsz
  obtain ⟨v0, vs0, d0, ds0, p0, q0, hargs, rfl, rfl, h0, r0⟩ := trodAll_cons hA
  obtain ⟨v1, vs1, d1, ds1, p1, q1, rfl, rfl, rfl, h1, r1⟩ := trodAll_cons r0
  obtain ⟨v2, vs2, d2, ds2, p2, q2, rfl, rfl, rfl, h2, r2⟩ := trodAll_cons r1
  obtain ⟨v3, vs3, d3, ds3, p3, q3, rfl, rfl, rfl, h3, r3⟩ := trodAll_cons r2
  obtain ⟨rfl, rfl, rfl⟩ := trodAll_nil r3
  obtain rfl : args = #[v0, v1, v2, v3] := by cases args; simp_all
  obtain ⟨rfl, rfl⟩ := trodVars_none hV
  obtain ⟨a0, rfl, rfl, rfl, y0⟩ := open_string Tryd.underlying9 (hval 0 9 v0 rfl rfl) h0
  have w0 : a0.size ≤ 140737488351232 := by
    have z := sized_string hsz (j := 0) (t := 9) rfl rfl
    rw [Array.length_toList] at z
    exact z
  obtain ⟨a1, rfl, rfl, rfl, y1⟩ := open_string Tryd.underlying9 (hval 1 9 v1 rfl rfl) h1
  have w1 : a1.size ≤ 140737488351232 := by
    have z := sized_string hsz (j := 1) (t := 9) rfl rfl
    rw [Array.length_toList] at z
    exact z
  obtain ⟨a2, rfl, rfl, rfl, w2⟩ := open_int Tryd.underlying5 (hval 2 5 v2 rfl rfl) h2
  obtain ⟨a3, rfl, rfl, rfl, w3⟩ := open_int Tryd.underlying5 (hval 3 5 v3 rfl rfl) h3
  clear hA0 hval0 hsz0 hsz
  obtain ⟨a, hE⟩ := Eof.eof_of_laid hL
  refine (Tg.law_walk a0 a1 a2 a3 W _ hE (isEof a) w0 w1 w2 w3).mono fun e W' ⟨he, bel⟩ => ?_
  subst he
  exact ⟨_, rfl, _, _, _, [], _, [], hW', trodAll_mk1 (shut_bool Tryd.underlying4 _), (trodAll_cons_mk (shut_string Tryd.underlying9 y0) (trodAll_cons_mk (shut_string Tryd.underlying9 y1) (trodAll_cons_mk (shut_int Tryd.underlying5 w2) (trodAll_cons_mk (shut_int Tryd.underlying5 w3) trodAll_mk0)))), rfl, bel.frame _, fun h => by cases h⟩
theorem over : Rows.fnTagsScannedRow.holds Tryd.pinned (OpenSpec.ofChange Rows.fnTagsScannedSpec) :=
  OpenClaim.holds_of_wide 6 Tryd.f6 rfl rfl rfl rfl rfl rfl rfl ⟨rfl, rfl, rfl, rfl, rfl⟩ rfl rfl rfl rfl rfl (by kernel_rfl) Tryd.func6 (by kernel_rfl)
    (of_decide_eq_true (by kernel_rfl)) (by unfold Func.isWrapper; first | (rw [if_pos (by decide +kernel)]; kernel_rfl) | (rw [if_neg (by decide +kernel)]; exact ⟨rfl, rfl⟩))
    (fun os started H enc _ => lifted os started H enc)
theorem card : Rows.FnTagsScannedCardSaid :=
  Claim7.holds_tied_plain_at .later [] [.sentinel] true (true, "e98277a42ef3d9bcce5b67e5feaea9c380d91a6eca5a003a41a9690f1ab8b367") true
    over (fun _ h => by cases h) (by kernel_rfl) (fun _ h => by cases h) fnTagsScanned_row_tie rfl ⟨rfl, rfl⟩ (by kernel_rfl) rfl
    (fun f fn hf hfn => by
      obtain rfl : f = 6 := Option.some.inj ((show Tryd.prog.funcNamed "given.example/pub-quincunx/laws.FnTagsScanned" = some 6 by kernel_rfl).symm.trans hf) |>.symm
      obtain rfl : fn = Tryd.f6 := (Option.some.inj (Tryd.func6.symm.trans hfn)).symm
      exact ⟨by kernel_rfl, fun j t ht => by
          rw [Tryd.params6] at ht
          rcases j with _ | _ | _ | _ | j
          · simp at ht; subst ht; exact (show Tryd.prog.wantsStandIn 9 = false by kernel_rfl)
          · simp at ht; subst ht; exact (show Tryd.prog.wantsStandIn 9 = false by kernel_rfl)
          · simp at ht; subst ht; exact (show Tryd.prog.wantsStandIn 5 = false by kernel_rfl)
          · simp at ht; subst ht; exact (show Tryd.prog.wantsStandIn 5 = false by kernel_rfl)
          · simp at ht⟩)
    (by kernel_rfl)
end Go.Proofs.YtocbbekciphjgaaDoor.fnTagsScanned
namespace Go.Proofs.YtocbbekciphjgaaDoor
theorem fnTagsScanned_holds : Rows.FnTagsScannedCardSaid := fnTagsScanned.card
#print axioms fnTagsScanned_holds
end Go.Proofs.YtocbbekciphjgaaDoor
