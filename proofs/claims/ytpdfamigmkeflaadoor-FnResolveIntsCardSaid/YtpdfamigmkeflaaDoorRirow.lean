/- FnResolveInts: an integer is read in each of its ways of writing; for every number and every form. The row and its card, the thirteen listed variables laid. -/
import Derived.Test.YtpdfamigmkeflaaDoorRows
import Derived.Test.YtpdfamigmkeflaaDoorRiL
import Derived.WalkKit
import Derived.ProofKit
import Derived.OpenShut
import Derived.ShutString
import Derived.ChangeOld
import Derived.Below
import Derived.SizedLaws
import Derived.ChangeSlices
import Derived.LaidEql
import Derived.LaidHandle
import Derived.LaidLaws
import Derived.LaidMore
import Derived.Lay
import Derived.JoinedOf
import Derived.Lib.LaidU8
import Derived.Lib.LaidTab
import Derived.Lib.AppendIntMem
import Derived.Stop.Joined
import Derived.Test.YtpdfamigmkeflaaDoorTie
import Derived.Test.YtpdfamigmkeflaaDoorCards
import Derived.SevenTiedAt
namespace Go.Proofs.YtpdfamigmkeflaaDoor.fnResolveInts
open Go.ChangeShapes Go.WideShapes Go.ChangeAt Go.RowKit
open Go.ChangeMaps (open_string shut_string)
set_option linter.unusedVariables false
theorem own : ownKnob Tryd.prog.godebug = none := by kernel_rfl
theorem tab_of_reads {W : World} {name : String} {k : IntKind} {zs : List Int} {g : Nat} {t e : TypeId} {n : Nat} (hg : Tryd.prog.globalNamed name = some g) (hty : (Tryd.prog.globals[g]?).map (·.type) = some t) (ht : Tryd.prog.underlying t = some (.array n e)) (he : Tryd.prog.underlying e = some (.int k)) (hce : Tryd.prog.cellsOf e = 1) (hct : Tryd.prog.cellsOf t = n)
    (h : Lib.VarReads Tryd.prog W name (Lib.tabData k zs)) : Lib.TabIs Tryd.prog W name k zs := by
  obtain ⟨g', t', cs, fuel, p, hg', ht', hvar, hd⟩ := h
  obtain rfl := Option.some.inj (hg.symm.trans hg')
  obtain rfl := Option.some.inj (hty.symm.trans ht')
  unfold Lib.TabIs
  rw [hvar, ← Lib.cells_of_tab ht he hce hct hd]
def bruijn : List Int := [0, 1, 56, 2, 57, 49, 28, 3, 61, 58, 42, 50, 38, 29, 17, 4, 62, 47, 59, 36, 45, 43, 51, 22, 53, 39, 33, 30, 24, 18, 12, 5, 63, 55, 48, 27, 60, 41, 37, 16, 46, 35, 44, 21, 52, 32, 23, 11, 54, 26, 40, 15, 34, 20, 31, 10, 25, 14, 19, 9, 13, 8, 7, 6]
theorem powIs : (Rows.laid_internal_strconv_uint64pow10 : DataW Unit) = Lib.tabData .u64 Lib.pow10Tab := by kernel_rfl
theorem bruijnIs : (Rows.laid_math_bits_deBruijn64tab : DataW Unit) = Lib.tabData .u8 bruijn := by kernel_rfl
set_option maxRecDepth 100000 in
theorem tabs_of_laid {W : World} (h : laidMetH Tryd.prog Rows.fnResolveIntsRow.laid W) : Ri.Tabs W := by
  have hL : laidMet Tryd.prog Rows.fnResolveIntsRow.laid W := h
  have h1 := Lib.laidMet.reads hL (n := "internal/strconv.uint64pow10") (d := Rows.laid_internal_strconv_uint64pow10) (by simp [Rows.fnResolveIntsRow])
  have h2 := Lib.laidMet.reads hL (n := "math/bits.deBruijn64tab") (d := Rows.laid_math_bits_deBruijn64tab) (by simp [Rows.fnResolveIntsRow])
  rw [powIs] at h1
  rw [bruijnIs] at h2
  have t1 := tab_of_reads (g := 0) (t := 44) (n := 20) (e := 23) (by kernel_rfl) (by kernel_rfl) (by kernel_rfl) (by kernel_rfl) (by kernel_rfl) (by kernel_rfl) h1
  have t2 := tab_of_reads (g := 2) (t := 78) (n := 64) (e := 5) (by kernel_rfl) (by kernel_rfl) (by kernel_rfl) (by kernel_rfl) (by kernel_rfl) (by kernel_rfl) h2
  exact ⟨t1, t2.cell (by kernel_rfl) 15 (by decide), t2.cell (by kernel_rfl) 7 (by decide)⟩
theorem low_size {W : World} (h : Ri.Tabs W) : 2 < W.heap.size := World.block_lt_of_cell? _ _ h.2.1
theorem int_lo {a : Int} (h : (Lit.int .i64 a).wf = true) : -9223372036854775808 ≤ a := by simp [Lit.wf, IntKind.min, IntKind.max, IntKind.signed, IntKind.bits] at h; omega
theorem int_hi {a : Int} (h : (Lit.int .i64 a).wf = true) : a ≤ 9223372036854775807 := by simp [Lit.wf, IntKind.min, IntKind.max, IntKind.signed, IntKind.bits] at h; omega
theorem u8_lo {a : Int} (h : (Lit.int .u8 a).wf = true) : 0 ≤ a := by simp [Lit.wf, IntKind.min, IntKind.max, IntKind.signed, IntKind.bits] at h; omega
theorem u8_hi {a : Int} (h : (Lit.int .u8 a).wf = true) : a ≤ 255 := by simp [Lit.wf, IntKind.min, IntKind.max, IntKind.signed, IntKind.bits] at h; omega
theorem laid_met (os : Os) (args : Array Value) : laidMetH Tryd.prog Rows.fnResolveIntsRow.laid ((World.laidAll Tryd.prog os Rows.fnResolveIntsRow.laid).forCall (fun _ _ => 0) ⟨#[], args, []⟩).memory :=
  (laidMet_laidAll args (by kernel_rfl) (by kernel_rfl) : laidMet Tryd.prog Rows.fnResolveIntsRow.laid _)
set_option maxRecDepth 100000 in
theorem lifted (os : Os) (started : os.Started) (H : Type) (enc : TypeId × Value → H) :
    ReturnsInHanded {} Tryd.checked os 3 .any (fun w args => (Rows.fnResolveIntsSpec.pre enc Tryd.prog Tryd.f3 [] false w args ∧ laidMetH Tryd.prog Rows.fnResolveIntsRow.laid w) ∧ sizedMet enc Tryd.prog Tryd.f3 (OpenSpec.ofChange Rows.fnResolveIntsSpec) false w args)
      (Rows.fnResolveIntsSpec.post enc Tryd.prog Tryd.f3 false true false false) := by
  refine returnsInHanded_of_change_and (C := Tryd.checked) (X := fun w _ => laidMetH Tryd.prog Rows.fnResolveIntsRow.laid w) (fun _ _ _ hh h => h.of_heap hh) own started (by kernel_rfl) Tryd.func3
    (ChangeSpec.witness_shaped (enc := enc) (C := Tryd.checked) (os := os) (X := fun w _ => laidMetH Tryd.prog Rows.fnResolveIntsRow.laid w) false (World.laidAll Tryd.prog os Rows.fnResolveIntsRow.laid) #[.int .i64 0, .int .u8 0] 8 (World.laidAll_os _ _ _)
      (World.shaped_of_ZipB (by kernel_rfl) (by kernel_rfl)) (by kernel_rfl) (by kernel_rfl) (by kernel_rfl)
      (laid_met os _)) ?_
  intro W base args ds gs before hval0 hW hcnd hsz0 hL _
  have hsz : (DataW.weightsEach Tryd.prog (Tryd.f3.params.toList ++ Rows.fnResolveIntsSpec.plain.varTypes Tryd.prog) (ds ++ gs)).all (· ≤ reachBytes) = true := hsz0
  have hval : ∀ (j : Nat) t v, Tryd.f3.params[j]? = some t → args[j]? = some v → Value.okWide Tryd.prog W .any base t v := hval0
  have hW' := hW
  obtain ⟨p, q, hA0, hV, rfl, hfz, hnd⟩ := hW
  have hA : DataW.TrodAll enc Tryd.prog W 0 (fun _ => true) true Tryd.f3.params.toList args.toList ds p := hA0
  rw [Tryd.params3] at hA hval hsz
  obtain ⟨v0, vs0, d0, ds0, p0, q0, hargs, rfl, rfl, h0, r0⟩ := trodAll_cons hA
  obtain ⟨v1, vs1, d1, ds1, p1, q1, rfl, rfl, rfl, h1, r1⟩ := trodAll_cons r0
  obtain ⟨rfl, rfl, rfl⟩ := trodAll_nil r1
  obtain rfl : args = #[v0, v1] := by cases args; simp_all
  obtain ⟨rfl, rfl⟩ := trodVars_none hV
  obtain ⟨a0, rfl, rfl, rfl, w0⟩ := open_int Tryd.underlying2 (hval 0 2 v0 rfl rfl) h0
  obtain ⟨a1, rfl, rfl, rfl, w1⟩ := open_int Tryd.underlying5 (hval 1 5 v1 rfl rfl) h1
  clear hA0 hval0 hsz0 hsz
  refine (Ri.law_walk a0 a1 (int_lo w0) (int_hi w0) (u8_lo w1) (u8_hi w1) W (tabs_of_laid hL) (low_size (tabs_of_laid hL))).mono fun e W' ⟨he, bel⟩ => ?_
  subst he
  exact ⟨_, rfl, _, _, _, [], _, [], hW', trodAll_mk1 (shut_bool Tryd.underlying4 _), (trodAll_cons_mk (shut_int Tryd.underlying2 w0) (trodAll_cons_mk (shut_int Tryd.underlying5 w1) trodAll_mk0)), rfl, bel.frame _, fun h => by cases h⟩
theorem over : Rows.fnResolveIntsRow.holds Tryd.pinned (OpenSpec.ofChange Rows.fnResolveIntsSpec) :=
  OpenClaim.holds_of_wide 3 Tryd.f3 rfl rfl rfl rfl rfl rfl rfl ⟨rfl, rfl, rfl, rfl, rfl⟩ rfl rfl rfl rfl rfl (by kernel_rfl) Tryd.func3 (by kernel_rfl)
    (of_decide_eq_true (by kernel_rfl)) (by unfold Func.isWrapper; first | (rw [if_pos (by decide +kernel)]; kernel_rfl) | (rw [if_neg (by decide +kernel)]; exact ⟨rfl, rfl⟩))
    (fun os started H enc _ => lifted os started H enc)
theorem card : Rows.FnResolveIntsCardSaid :=
  Claim7.holds_tied_plain_at .later [] [.data, .data, .widerDeep, .widerDeep, .data, .data, .data, .data, .data, .sentinel, .sentinel, .pinned, .pinned] true (true, "103dc0862d4c4922dba631fc06de36931650fa917f6dd00c4ea2785f5ab067b2") true
    over (fun _ h => by cases h) (by kernel_rfl) (fun _ h => by cases h) fnResolveInts_row_tie rfl ⟨rfl, rfl⟩ (by kernel_rfl) rfl
    (fun f fn hf hfn => by
      obtain rfl : f = 3 := Option.some.inj ((show Tryd.prog.funcNamed "given.example/pub-quincunx/laws.FnResolveInts" = some 3 by kernel_rfl).symm.trans hf) |>.symm
      obtain rfl : fn = Tryd.f3 := (Option.some.inj (Tryd.func3.symm.trans hfn)).symm
      exact ⟨by kernel_rfl, fun j t ht => by
          rw [Tryd.params3] at ht
          rcases j with _ | j
          · simp at ht; subst ht; exact (show Tryd.prog.wantsStandIn 2 = false by kernel_rfl)
          rcases j with _ | j
          · simp at ht; subst ht; exact (show Tryd.prog.wantsStandIn 5 = false by kernel_rfl)
          simp at ht⟩)
    (by kernel_rfl)
end Go.Proofs.YtpdfamigmkeflaaDoor.fnResolveInts
namespace Go.Proofs.YtpdfamigmkeflaaDoor
theorem fnResolveInts_holds : Rows.FnResolveIntsCardSaid := fnResolveInts.card
#print axioms fnResolveInts_holds
end Go.Proofs.YtpdfamigmkeflaaDoor
