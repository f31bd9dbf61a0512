/- FnBlockHeads: behind the sign of a block scalar the reference takes for a header what the scanner takes for one, and what it says; all else is an error; for heads of at most 1000 bytes, of characters that may stand in a line, no comment without white ahead of it. The row and its card, the three listed variables laid. -/
import Derived.Test.YtocbbekciphjgaaDoorRows
import Derived.WalkKit
import Derived.ProofKit
import Derived.OpenShut
import Derived.ShutString
import Derived.ChangeOld
import Derived.Below
import Derived.SizedLaws
import Derived.ChangeSlices
import Derived.LaidEql
import Derived.LaidHandle
import Derived.LaidLaws
import Derived.LaidMore
import Derived.Lay
import Derived.JoinedOf
import Derived.Lib.LaidU8T
import Derived.Lib.LaidIn
import Derived.Lib.LaidU8
import Derived.Lib.LaidTab
import Derived.Stop.Joined
import Derived.Test.YtocbbekciphjgaaDoorTie
import Derived.Test.YtocbbekciphjgaaDoorCards
import Derived.SevenTiedAt
import Derived.Test.YtocbbekciphjgaaDoorMh19
namespace Go.Proofs.YtocbbekciphjgaaDoor.fnBlockHeads
open Go.ChangeShapes Go.WideShapes Go.ChangeAt Go.RowKit
open Go.ChangeMaps (open_string shut_string)
set_option linter.unusedVariables false
theorem own : ownKnob Tryd.prog.godebug = none := by kernel_rfl
theorem comp181 : (Tryd.prog.info? 181).map (·.comparable) = some true := by kernel_rfl
theorem some209 : (Tryd.prog.info? 209).isSome = true := by kernel_rfl
theorem isEof (a : Addr) : Pa.IsEof (.iface 181 (.pointer (some a))) := by
  obtain ⟨i, hi, hcmp⟩ := Option.map_eq_some_iff.1 comp181
  obtain ⟨j, hj⟩ := Option.isSome_iff_exists.1 some209
  exact ⟨⟨_, _, rfl⟩, fun w => run_eql_iface_ptr_same (P := Tryd.prog) w a Tryd.underlying172 Tryd.underlying181 hi hcmp hj, fun w => run_eql_iface_nil_left (P := Tryd.prog) w 181 _ Tryd.underlying172⟩
theorem firstIs : Rows.laid_unicode_utf8_first = Lib.firstData := by kernel_rfl
theorem acceptIs : (Rows.laid_unicode_utf8_acceptRanges : DataW Unit) = Lib.acceptData := by kernel_rfl
set_option maxRecDepth 100000 in
theorem tabs_of_laid {W : World} (h : laidMetH Tryd.prog Rows.fnBlockHeadsRow.laid W) : Ln.Tabs W := by
  have hL : laidMet Tryd.prog Rows.fnBlockHeadsRow.laid W := h
  have h1 := Lib.laidMet.reads hL (n := "unicode/utf8.acceptRanges") (d := Rows.laid_unicode_utf8_acceptRanges) (by simp [Rows.fnBlockHeadsRow])
  have h2 := Lib.laidMet.reads hL (n := "unicode/utf8.first") (d := Rows.laid_unicode_utf8_first) (by simp [Rows.fnBlockHeadsRow])
  rw [acceptIs] at h1
  rw [firstIs] at h2
  exact utf8Tabs_of_readsT (U8Types.of196 Tryd.laysValid) ⟨by kernel_rfl, by kernel_rfl, by kernel_rfl, by kernel_rfl, by kernel_rfl, by kernel_rfl, by kernel_rfl⟩ h2 h1
set_option maxRecDepth 100000 in
theorem eof_of_laid {W : World} (h : laidMetH Tryd.prog Rows.fnBlockHeadsRow.laid W) : ∃ a : Addr, W.cell? ⟨2, 0, none⟩ = some (.iface 181 (.pointer (some a))) := by
  have h' : laidMet Tryd.prog [("unicode/utf8.acceptRanges", Rows.laid_unicode_utf8_acceptRanges), ("io.EOF", Rows.laid_io_EOF), ("unicode/utf8.first", Rows.laid_unicode_utf8_first)] W := h
  obtain ⟨ps, ⟨g1, t1, cs1, f1, p1, q1, hg1, ht1, hv1, hd1, ⟨g0, t0, cs0, f0, p0, q0, hg0, ht0, hv0, hd0, hq0, e0⟩, e1⟩, hnd, hrows⟩ := h'
  obtain rfl := Option.some.inj (Eof.named.symm.trans hg0)
  obtain rfl := Option.some.inj (Eof.typed.symm.trans ht0)
  subst e0
  subst e1
  obtain ⟨l0⟩ := cs0
  have ok0 : ∀ u v, l0 = [.iface u v] → Value.okWide Tryd.prog W .any 0 u v := fun u v e => by
    subst e
    exact (hrows 2 0 (by simp [MemPlace.row])).2 u v (by simpa using World.var?_cell hg0 hv0 0)
  obtain ⟨a0, s0, rfl, hc0, hs0, hz0, rfl⟩ := errorString_of_trod Tryd.underlying172 Eof.row181 Tryd.underlying181 Tryd.underlying209 rfl rfl Tryd.underlying9 Eof.cells209 Eof.cells9 hd0 ok0
  exact ⟨a0, by simpa using World.var?_cell hg0 hv0 0⟩
theorem laid_met (os : Os) (args : Array Value) : laidMetH Tryd.prog Rows.fnBlockHeadsRow.laid ((World.laidAll Tryd.prog os Rows.fnBlockHeadsRow.laid).forCall (fun _ _ => 0) ⟨#[], args, []⟩).memory :=
  (laidMet_laidAll args (by kernel_rfl) (by kernel_rfl) : laidMet Tryd.prog Rows.fnBlockHeadsRow.laid _)
set_option maxRecDepth 100000 in
theorem lifted (os : Os) (started : os.Started) (H : Type) (enc : TypeId × Value → H) :
    ReturnsInHanded {} Tryd.checked os 9 .any (fun w args => (Rows.fnBlockHeadsSpec.pre enc Tryd.prog Tryd.f9 [] false w args ∧ laidMetH Tryd.prog Rows.fnBlockHeadsRow.laid w) ∧ sizedMet enc Tryd.prog Tryd.f9 (OpenSpec.ofChange Rows.fnBlockHeadsSpec) false w args)
      (Rows.fnBlockHeadsSpec.post enc Tryd.prog Tryd.f9 false true false false) := by
  refine returnsInHanded_of_change_and (C := Tryd.checked) (X := fun w _ => laidMetH Tryd.prog Rows.fnBlockHeadsRow.laid w) (fun _ _ _ hh h => h.of_heap hh) own started (by kernel_rfl) Tryd.func9
    (ChangeSpec.witness_shaped (enc := enc) (C := Tryd.checked) (os := os) (X := fun w _ => laidMetH Tryd.prog Rows.fnBlockHeadsRow.laid w) false (World.laidAll Tryd.prog os Rows.fnBlockHeadsRow.laid) #[.string ByteArray.empty, .bool false] 8 (World.laidAll_os _ _ _)
      (World.shaped_of_ZipB (by kernel_rfl) (by kernel_rfl)) (by kernel_rfl) (by kernel_rfl) (by kernel_rfl)
      (laid_met os _)) ?_
  intro W base args ds gs before hval0 hW hcnd hsz0 hL _
  have hsz : (DataW.weightsEach Tryd.prog (Tryd.f9.params.toList ++ Rows.fnBlockHeadsSpec.plain.varTypes Tryd.prog) (ds ++ gs)).all (· ≤ reachBytes) = true := hsz0
  have hval : ∀ (j : Nat) t v, Tryd.f9.params[j]? = some t → args[j]? = some v → Value.okWide Tryd.prog W .any base t v := hval0
  have hW' := hW
  obtain ⟨p, q, hA0, hV, rfl, hfz, hnd⟩ := hW
  have hA : DataW.TrodAll enc Tryd.prog W 0 (fun _ => true) true Tryd.f9.params.toList args.toList ds p := hA0
  rw [Tryd.params9] at hA hval hsz
  obtain ⟨v0, vs0, d0, ds0, p0, q0, hargs, rfl, rfl, h0, r0⟩ := trodAll_cons hA
  obtain ⟨v1, vs1, d1, ds1, p1, q1, rfl, rfl, rfl, h1, r1⟩ := trodAll_cons r0
  obtain ⟨rfl, rfl, rfl⟩ := trodAll_nil r1
  obtain rfl : args = #[v0, v1] := by cases args; simp_all
  obtain ⟨rfl, rfl⟩ := trodVars_none hV
  obtain ⟨a0, rfl, rfl, rfl, y0⟩ := open_string Tryd.underlying9 (hval 0 9 v0 rfl rfl) h0
  obtain ⟨a1, rfl, rfl, rfl⟩ := open_bool Tryd.underlying4 (hval 1 4 v1 rfl rfl) h1
  have w0 : a0.size ≤ 140737488351232 := by
    have z := sized_string hsz (j := 0) (t := 9) rfl rfl
    rw [Array.length_toList] at z
    exact z
  clear hA0 hval0 hsz0 hsz
  obtain ⟨a, hE⟩ := eof_of_laid hL
  refine (Bh.heads_walk a0 a1 W _ hE (isEof a) (tabs_of_laid hL) w0).mono fun e W' ⟨he, bel⟩ => ?_
  subst he
  exact ⟨_, rfl, _, _, _, [], _, [], hW', trodAll_mk1 (shut_bool Tryd.underlying4 _), (trodAll_cons_mk (shut_string Tryd.underlying9 y0) (trodAll_cons_mk (shut_bool Tryd.underlying4 a1) trodAll_mk0)), rfl, bel.frame _, fun h => by cases h⟩
theorem over : Rows.fnBlockHeadsRow.holds Tryd.pinned (OpenSpec.ofChange Rows.fnBlockHeadsSpec) :=
  OpenClaim.holds_of_wide 9 Tryd.f9 rfl rfl rfl rfl rfl rfl rfl ⟨rfl, rfl, rfl, rfl, rfl⟩ rfl rfl rfl rfl rfl (by kernel_rfl) Tryd.func9 (by kernel_rfl)
    (of_decide_eq_true (by kernel_rfl)) (by unfold Func.isWrapper; first | (rw [if_pos (by decide +kernel)]; kernel_rfl) | (rw [if_neg (by decide +kernel)]; exact ⟨rfl, rfl⟩))
    (fun os started H enc _ => lifted os started H enc)
theorem card : Rows.FnBlockHeadsCardSaid :=
  Claim7.holds_tied_plain_at .later [] [.data, .sentinel, .pinned] true (true, "e98277a42ef3d9bcce5b67e5feaea9c380d91a6eca5a003a41a9690f1ab8b367") true
    over (fun _ h => by cases h) (by kernel_rfl) (fun _ h => by cases h) fnBlockHeads_row_tie rfl ⟨rfl, rfl⟩ (by kernel_rfl) rfl
    (fun f fn hf hfn => by
      obtain rfl : f = 9 := Option.some.inj ((show Tryd.prog.funcNamed "given.example/pub-quincunx/laws.FnBlockHeads" = some 9 by kernel_rfl).symm.trans hf) |>.symm
      obtain rfl : fn = Tryd.f9 := (Option.some.inj (Tryd.func9.symm.trans hfn)).symm
      exact ⟨by kernel_rfl, fun j t ht => by
          rw [Tryd.params9] at ht
          rcases j with _ | j
          · simp at ht; subst ht; exact (show Tryd.prog.wantsStandIn 9 = false by kernel_rfl)
          rcases j with _ | j
          · simp at ht; subst ht; exact (show Tryd.prog.wantsStandIn 4 = false by kernel_rfl)
          simp at ht⟩)
    (by kernel_rfl)
end Go.Proofs.YtocbbekciphjgaaDoor.fnBlockHeads
namespace Go.Proofs.YtocbbekciphjgaaDoor
theorem fnBlockHeads_holds : Rows.FnBlockHeadsCardSaid := fnBlockHeads.card
#print axioms fnBlockHeads_holds
end Go.Proofs.YtocbbekciphjgaaDoor
