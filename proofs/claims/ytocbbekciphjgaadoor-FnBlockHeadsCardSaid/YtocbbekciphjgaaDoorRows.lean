/-
  NARROWER THAN 'FOR EVERY INPUT', by the rows' own cells (each row's printed sentence says how): FnEncodingTold: laid · FnVersionsScanned: laid · FnAnchorsScanned: laid · FnTagsScanned: laid · FnDoubleScans: laid · FnSingleScans: laid · FnBlockHeads: laid · FnScalarScans: laid.
  DERIVED. THE GIVEN ROWS OF THIS SEAT. 8 by the template 'for every input the law returns true; each argument reads behind the call as it read before'; 0 by the template 'total and deterministic' (their statements: YtocbbekciphjgaaDoorTotals.lean).
  GIVEN WITH THE SEED: the statements are not yours to turn. If you find one false, say at which input.
  Laid BY PROGRAM, IN A SANDBOX (cutbox-rows.mjs): the forced cells as the released guide's own fill.sh prints them over the translation b4447d2549d7bc01… (all of the seat's roots in one cut). By AI agents, Wed Nov 11 2026. No macro, syntax, notation, axiom, sorry.
-/
import Derived.Test.YtocbbekciphjgaaDoorChecked
import GoSem.PinnedTables
import GoSem.Claim
import GoSem.ClaimJoined
import GoSem.ClaimMapViews
import Derived.JoinedTies
import Derived.KernelRfl
namespace Go.Proofs.YtocbbekciphjgaaDoor
/- THE CELL 'sum', in the pinned program and in every row, IS THE sha256 OF THE DUMP (.gsa) THAT YtocbbekciphjgaaDoorProg.lean LOADS. Nothing in Lean hashes anything: it is a label: what it is worth is what the hold of that sum in a sandbox is worth. -/
noncomputable def Tryd.pinned : Pinned := { name := "ytocbbekciphjgaadoor", sum := "b4447d2549d7bc01e6573a548a4198494ea501f2ce488fee9a856a653ec85596", checked := Tryd.checked }
namespace Rows
def none {H : Type} : Left H := { results := [], args := [] }

/- WHAT THE LISTED PACKAGE-LEVEL VARIABLES READ AS WHEN THE CALL BEGINS. Each datum BY PROGRAM (the guide's laid-datum.mjs) off the statement by which the dump's own 'gosem.cut.vars' lays the variable. In a bare row this is a premise. The card (YtocbbekciphjgaaDoorCards.lean) ties it to the program's text. -/
def laid_io_EOF {H : Type} : DataW H := .iface "*errors.errorString" (.ptr (.agg [.lit (.string [69, 79, 70])]))
def laid_unicode_utf8_acceptRanges {H : Type} : DataW H := .agg [.agg [.lit (.int .u8 128), .lit (.int .u8 191)], .agg [.lit (.int .u8 160), .lit (.int .u8 191)], .agg [.lit (.int .u8 128), .lit (.int .u8 159)], .agg [.lit (.int .u8 144), .lit (.int .u8 191)], .agg [.lit (.int .u8 128), .lit (.int .u8 143)], .agg [.lit (.int .u8 0), .lit (.int .u8 0)], .agg [.lit (.int .u8 0), .lit (.int .u8 0)], .agg [.lit (.int .u8 0), .lit (.int .u8 0)], .agg [.lit (.int .u8 0), .lit (.int .u8 0)], .agg [.lit (.int .u8 0), .lit (.int .u8 0)], .agg [.lit (.int .u8 0), .lit (.int .u8 0)], .agg [.lit (.int .u8 0), .lit (.int .u8 0)], .agg [.lit (.int .u8 0), .lit (.int .u8 0)], .agg [.lit (.int .u8 0), .lit (.int .u8 0)], .agg [.lit (.int .u8 0), .lit (.int .u8 0)], .agg [.lit (.int .u8 0), .lit (.int .u8 0)]]
/-- One of Go's own tables, pinned by name: the form's constant. -/
def laid_unicode_utf8_first : DataW Unit := Go.Pinned.utf8First

/-- 'laws.FnEncodingTold': WHATEVER THE INPUT: true; the input reads as it did. -/
def fnEncodingToldSpec : ChangeSpec := { name := "fnEncodingTold", fn := fun _ => fun
  | [d] => { results := [.lit (.bool true)], args := [d] }
  | _ => none }
def fnEncodingToldRow : OpenClaim := { program := "ytocbbekciphjgaadoor", sum := "b4447d2549d7bc01e6573a548a4198494ea501f2ce488fee9a856a653ec85596", func := "given.example/pub-quincunx/laws.FnEncodingTold", spec := "fnEncodingTold", unfollowed := true, recurses := true, named := ["io.EOF"], apart := false, laid := [("io.EOF", laid_io_EOF)] }
def FnEncodingToldSaid : Prop := fnEncodingToldRow.holds Tryd.pinned (OpenSpec.ofChange fnEncodingToldSpec)

/-- ITS FALSE NEIGHBOUR: 'it returns false'. Refute it at one input. -/
def fnEncodingToldWrong : ChangeSpec := { name := "fnEncodingTold", fn := fun _ => fun
  | [d] => { results := [.lit (.bool false)], args := [d] }
  | _ => none }
def FnEncodingToldWrongFalsely : Prop := fnEncodingToldRow.holds Tryd.pinned (OpenSpec.ofChange fnEncodingToldWrong)

/-- 'laws.FnVersionsScanned': WHATEVER THE INPUT: true; the input reads as it did. -/
def fnVersionsScannedSpec : ChangeSpec := { name := "fnVersionsScanned", fn := fun _ => fun
  | [d1, d2, d3, d4] => { results := [.lit (.bool true)], args := [d1, d2, d3, d4] }
  | _ => none }
def fnVersionsScannedRow : OpenClaim := { program := "ytocbbekciphjgaadoor", sum := "b4447d2549d7bc01e6573a548a4198494ea501f2ce488fee9a856a653ec85596", func := "given.example/pub-quincunx/laws.FnVersionsScanned", spec := "fnVersionsScanned", unfollowed := true, recurses := true, named := ["io.EOF"], apart := false, laid := [("io.EOF", laid_io_EOF)] }
def FnVersionsScannedSaid : Prop := fnVersionsScannedRow.holds Tryd.pinned (OpenSpec.ofChange fnVersionsScannedSpec)

/-- ITS FALSE NEIGHBOUR: 'it returns false'. Refute it at one input. -/
def fnVersionsScannedWrong : ChangeSpec := { name := "fnVersionsScanned", fn := fun _ => fun
  | [d1, d2, d3, d4] => { results := [.lit (.bool false)], args := [d1, d2, d3, d4] }
  | _ => none }
def FnVersionsScannedWrongFalsely : Prop := fnVersionsScannedRow.holds Tryd.pinned (OpenSpec.ofChange fnVersionsScannedWrong)

/-- 'laws.FnAnchorsScanned': WHATEVER THE INPUT: true; the input reads as it did. -/
def fnAnchorsScannedSpec : ChangeSpec := { name := "fnAnchorsScanned", fn := fun _ => fun
  | [d1, d2, d3] => { results := [.lit (.bool true)], args := [d1, d2, d3] }
  | _ => none }
def fnAnchorsScannedRow : OpenClaim := { program := "ytocbbekciphjgaadoor", sum := "b4447d2549d7bc01e6573a548a4198494ea501f2ce488fee9a856a653ec85596", func := "given.example/pub-quincunx/laws.FnAnchorsScanned", spec := "fnAnchorsScanned", unfollowed := true, recurses := true, named := ["io.EOF"], apart := false, laid := [("io.EOF", laid_io_EOF)] }
def FnAnchorsScannedSaid : Prop := fnAnchorsScannedRow.holds Tryd.pinned (OpenSpec.ofChange fnAnchorsScannedSpec)

/-- ITS FALSE NEIGHBOUR: 'it returns false'. Refute it at one input. -/
def fnAnchorsScannedWrong : ChangeSpec := { name := "fnAnchorsScanned", fn := fun _ => fun
  | [d1, d2, d3] => { results := [.lit (.bool false)], args := [d1, d2, d3] }
  | _ => none }
def FnAnchorsScannedWrongFalsely : Prop := fnAnchorsScannedRow.holds Tryd.pinned (OpenSpec.ofChange fnAnchorsScannedWrong)

/-- 'laws.FnTagsScanned': WHATEVER THE INPUT: true; the input reads as it did. -/
def fnTagsScannedSpec : ChangeSpec := { name := "fnTagsScanned", fn := fun _ => fun
  | [d1, d2, d3, d4] => { results := [.lit (.bool true)], args := [d1, d2, d3, d4] }
  | _ => none }
def fnTagsScannedRow : OpenClaim := { program := "ytocbbekciphjgaadoor", sum := "b4447d2549d7bc01e6573a548a4198494ea501f2ce488fee9a856a653ec85596", func := "given.example/pub-quincunx/laws.FnTagsScanned", spec := "fnTagsScanned", unfollowed := true, recurses := true, named := ["io.EOF"], apart := false, laid := [("io.EOF", laid_io_EOF)] }
def FnTagsScannedSaid : Prop := fnTagsScannedRow.holds Tryd.pinned (OpenSpec.ofChange fnTagsScannedSpec)

/-- ITS FALSE NEIGHBOUR: 'it returns false'. Refute it at one input. -/
def fnTagsScannedWrong : ChangeSpec := { name := "fnTagsScanned", fn := fun _ => fun
  | [d1, d2, d3, d4] => { results := [.lit (.bool false)], args := [d1, d2, d3, d4] }
  | _ => none }
def FnTagsScannedWrongFalsely : Prop := fnTagsScannedRow.holds Tryd.pinned (OpenSpec.ofChange fnTagsScannedWrong)

/-- 'laws.FnDoubleScans': WHATEVER THE INPUT: true; the input reads as it did. -/
def fnDoubleScansSpec : ChangeSpec := { name := "fnDoubleScans", fn := fun _ => fun
  | [d] => { results := [.lit (.bool true)], args := [d] }
  | _ => none }
def fnDoubleScansRow : OpenClaim := { program := "ytocbbekciphjgaadoor", sum := "b4447d2549d7bc01e6573a548a4198494ea501f2ce488fee9a856a653ec85596", func := "given.example/pub-quincunx/laws.FnDoubleScans", spec := "fnDoubleScans", unfollowed := true, recurses := true, named := ["unicode/utf8.first", "unicode/utf8.acceptRanges", "io.EOF"], apart := false, laid := [("unicode/utf8.acceptRanges", laid_unicode_utf8_acceptRanges), ("io.EOF", laid_io_EOF), ("unicode/utf8.first", laid_unicode_utf8_first)] }
def FnDoubleScansSaid : Prop := fnDoubleScansRow.holds Tryd.pinned (OpenSpec.ofChange fnDoubleScansSpec)

/-- ITS FALSE NEIGHBOUR: 'it returns false'. Refute it at one input. -/
def fnDoubleScansWrong : ChangeSpec := { name := "fnDoubleScans", fn := fun _ => fun
  | [d] => { results := [.lit (.bool false)], args := [d] }
  | _ => none }
def FnDoubleScansWrongFalsely : Prop := fnDoubleScansRow.holds Tryd.pinned (OpenSpec.ofChange fnDoubleScansWrong)

/-- 'laws.FnSingleScans': WHATEVER THE INPUT: true; the input reads as it did. -/
def fnSingleScansSpec : ChangeSpec := { name := "fnSingleScans", fn := fun _ => fun
  | [d] => { results := [.lit (.bool true)], args := [d] }
  | _ => none }
def fnSingleScansRow : OpenClaim := { program := "ytocbbekciphjgaadoor", sum := "b4447d2549d7bc01e6573a548a4198494ea501f2ce488fee9a856a653ec85596", func := "given.example/pub-quincunx/laws.FnSingleScans", spec := "fnSingleScans", unfollowed := true, recurses := true, named := ["unicode/utf8.first", "unicode/utf8.acceptRanges", "io.EOF"], apart := false, laid := [("unicode/utf8.acceptRanges", laid_unicode_utf8_acceptRanges), ("io.EOF", laid_io_EOF), ("unicode/utf8.first", laid_unicode_utf8_first)] }
def FnSingleScansSaid : Prop := fnSingleScansRow.holds Tryd.pinned (OpenSpec.ofChange fnSingleScansSpec)

/-- ITS FALSE NEIGHBOUR: 'it returns false'. Refute it at one input. -/
def fnSingleScansWrong : ChangeSpec := { name := "fnSingleScans", fn := fun _ => fun
  | [d] => { results := [.lit (.bool false)], args := [d] }
  | _ => none }
def FnSingleScansWrongFalsely : Prop := fnSingleScansRow.holds Tryd.pinned (OpenSpec.ofChange fnSingleScansWrong)

/-- 'laws.FnBlockHeads': WHATEVER THE INPUT: true; the input reads as it did. -/
def fnBlockHeadsSpec : ChangeSpec := { name := "fnBlockHeads", fn := fun _ => fun
  | [d1, d2] => { results := [.lit (.bool true)], args := [d1, d2] }
  | _ => none }
def fnBlockHeadsRow : OpenClaim := { program := "ytocbbekciphjgaadoor", sum := "b4447d2549d7bc01e6573a548a4198494ea501f2ce488fee9a856a653ec85596", func := "given.example/pub-quincunx/laws.FnBlockHeads", spec := "fnBlockHeads", unfollowed := true, recurses := true, named := ["unicode/utf8.first", "unicode/utf8.acceptRanges", "io.EOF"], apart := false, laid := [("unicode/utf8.acceptRanges", laid_unicode_utf8_acceptRanges), ("io.EOF", laid_io_EOF), ("unicode/utf8.first", laid_unicode_utf8_first)] }
def FnBlockHeadsSaid : Prop := fnBlockHeadsRow.holds Tryd.pinned (OpenSpec.ofChange fnBlockHeadsSpec)

/-- ITS FALSE NEIGHBOUR: 'it returns false'. Refute it at one input. -/
def fnBlockHeadsWrong : ChangeSpec := { name := "fnBlockHeads", fn := fun _ => fun
  | [d1, d2] => { results := [.lit (.bool false)], args := [d1, d2] }
  | _ => none }
def FnBlockHeadsWrongFalsely : Prop := fnBlockHeadsRow.holds Tryd.pinned (OpenSpec.ofChange fnBlockHeadsWrong)

/-- 'laws.FnScalarScans': WHATEVER THE INPUT: true; the input reads as it did. -/
def fnScalarScansSpec : ChangeSpec := { name := "fnScalarScans", fn := fun _ => fun
  | [d1, d2, d3, d4] => { results := [.lit (.bool true)], args := [d1, d2, d3, d4] }
  | _ => none }
def fnScalarScansRow : OpenClaim := { program := "ytocbbekciphjgaadoor", sum := "b4447d2549d7bc01e6573a548a4198494ea501f2ce488fee9a856a653ec85596", func := "given.example/pub-quincunx/laws.FnScalarScans", spec := "fnScalarScans", unfollowed := true, recurses := true, named := ["unicode/utf8.first", "unicode/utf8.acceptRanges", "io.EOF"], apart := false, laid := [("unicode/utf8.acceptRanges", laid_unicode_utf8_acceptRanges), ("io.EOF", laid_io_EOF), ("unicode/utf8.first", laid_unicode_utf8_first)] }
def FnScalarScansSaid : Prop := fnScalarScansRow.holds Tryd.pinned (OpenSpec.ofChange fnScalarScansSpec)

/-- ITS FALSE NEIGHBOUR: 'it returns false'. Refute it at one input. -/
def fnScalarScansWrong : ChangeSpec := { name := "fnScalarScans", fn := fun _ => fun
  | [d1, d2, d3, d4] => { results := [.lit (.bool false)], args := [d1, d2, d3, d4] }
  | _ => none }
def FnScalarScansWrongFalsely : Prop := fnScalarScansRow.holds Tryd.pinned (OpenSpec.ofChange fnScalarScansWrong)

/- THE SECOND FORM. 'bulk': how many values and letters a reading holds, each counted each time it is reached (what is shared counts as often as it is met; a slice's spare places count too). A statement '..UptoSaid' is the law's where the arguments, and the package variables that the reading takes, are together of bulk at most 1048576: NARROWER than '..Said'. Prove '..Said' where nothing that the law and all that it calls make is longer than what came in: it says more and counts as full. Else prove '..UptoSaid'. A law counts once. -/
mutual
def uptoBulk {H : Type} : DataW H → Nat
  | .lit (.string bytes) => bytes.length + 1
  | .lit _ => 1
  | .nil => 1
  | .ptr d => uptoBulk d + 1
  | .slice elems spare => uptoBulkAll elems + uptoBulkAll spare + 1
  | .agg parts => uptoBulkAll parts + 1
  | .iface _ d => uptoBulk d + 1
  | .map entries => uptoBulkEntries entries + 1
  | .held _ => 1
def uptoBulkAll {H : Type} : List (DataW H) → Nat
  | [] => 0
  | d :: r => uptoBulk d + uptoBulkAll r
def uptoBulkEntries {H : Type} : List (Lit × DataW H) → Nat
  | [] => 0
  | x :: r => uptoBulkEntry x + uptoBulkEntries r
def uptoBulkEntry {H : Type} : Lit × DataW H → Nat
  | (.string bytes, d) => bytes.length + uptoBulk d + 1
  | (_, d) => uptoBulk d + 1
 end
def uptoSmall : (H : Type) → List (DataW H) → Bool := fun _ ds => decide (uptoBulkAll ds ≤ 1048576)
def OpenSpec.upto (s : _root_.Go.ChangeSpec) : _root_.Go.OpenSpec := { _root_.Go.OpenSpec.ofChange s with cond := some uptoSmall }

/-- 'laws.FnEncodingTold', WHERE WHAT IT READS IS OF BULK AT MOST 1048576: true; the input reads as it did. -/
def fnEncodingToldUptoRow : OpenClaim := { program := "ytocbbekciphjgaadoor", sum := "b4447d2549d7bc01e6573a548a4198494ea501f2ce488fee9a856a653ec85596", func := "given.example/pub-quincunx/laws.FnEncodingTold", spec := "fnEncodingTold", unfollowed := true, recurses := true, named := ["io.EOF"], apart := false, laid := [("io.EOF", laid_io_EOF)], narrowed := true }
def FnEncodingToldUptoSaid : Prop := fnEncodingToldUptoRow.holds Tryd.pinned (OpenSpec.upto fnEncodingToldSpec)

/-- 'laws.FnVersionsScanned', WHERE WHAT IT READS IS OF BULK AT MOST 1048576: true; the input reads as it did. -/
def fnVersionsScannedUptoRow : OpenClaim := { program := "ytocbbekciphjgaadoor", sum := "b4447d2549d7bc01e6573a548a4198494ea501f2ce488fee9a856a653ec85596", func := "given.example/pub-quincunx/laws.FnVersionsScanned", spec := "fnVersionsScanned", unfollowed := true, recurses := true, named := ["io.EOF"], apart := false, laid := [("io.EOF", laid_io_EOF)], narrowed := true }
def FnVersionsScannedUptoSaid : Prop := fnVersionsScannedUptoRow.holds Tryd.pinned (OpenSpec.upto fnVersionsScannedSpec)

/-- 'laws.FnAnchorsScanned', WHERE WHAT IT READS IS OF BULK AT MOST 1048576: true; the input reads as it did. -/
def fnAnchorsScannedUptoRow : OpenClaim := { program := "ytocbbekciphjgaadoor", sum := "b4447d2549d7bc01e6573a548a4198494ea501f2ce488fee9a856a653ec85596", func := "given.example/pub-quincunx/laws.FnAnchorsScanned", spec := "fnAnchorsScanned", unfollowed := true, recurses := true, named := ["io.EOF"], apart := false, laid := [("io.EOF", laid_io_EOF)], narrowed := true }
def FnAnchorsScannedUptoSaid : Prop := fnAnchorsScannedUptoRow.holds Tryd.pinned (OpenSpec.upto fnAnchorsScannedSpec)

/-- 'laws.FnTagsScanned', WHERE WHAT IT READS IS OF BULK AT MOST 1048576: true; the input reads as it did. -/
def fnTagsScannedUptoRow : OpenClaim := { program := "ytocbbekciphjgaadoor", sum := "b4447d2549d7bc01e6573a548a4198494ea501f2ce488fee9a856a653ec85596", func := "given.example/pub-quincunx/laws.FnTagsScanned", spec := "fnTagsScanned", unfollowed := true, recurses := true, named := ["io.EOF"], apart := false, laid := [("io.EOF", laid_io_EOF)], narrowed := true }
def FnTagsScannedUptoSaid : Prop := fnTagsScannedUptoRow.holds Tryd.pinned (OpenSpec.upto fnTagsScannedSpec)

/-- 'laws.FnDoubleScans', WHERE WHAT IT READS IS OF BULK AT MOST 1048576: true; the input reads as it did. -/
def fnDoubleScansUptoRow : OpenClaim := { program := "ytocbbekciphjgaadoor", sum := "b4447d2549d7bc01e6573a548a4198494ea501f2ce488fee9a856a653ec85596", func := "given.example/pub-quincunx/laws.FnDoubleScans", spec := "fnDoubleScans", unfollowed := true, recurses := true, named := ["unicode/utf8.first", "unicode/utf8.acceptRanges", "io.EOF"], apart := false, laid := [("unicode/utf8.acceptRanges", laid_unicode_utf8_acceptRanges), ("io.EOF", laid_io_EOF), ("unicode/utf8.first", laid_unicode_utf8_first)], narrowed := true }
def FnDoubleScansUptoSaid : Prop := fnDoubleScansUptoRow.holds Tryd.pinned (OpenSpec.upto fnDoubleScansSpec)

/-- 'laws.FnSingleScans', WHERE WHAT IT READS IS OF BULK AT MOST 1048576: true; the input reads as it did. -/
def fnSingleScansUptoRow : OpenClaim := { program := "ytocbbekciphjgaadoor", sum := "b4447d2549d7bc01e6573a548a4198494ea501f2ce488fee9a856a653ec85596", func := "given.example/pub-quincunx/laws.FnSingleScans", spec := "fnSingleScans", unfollowed := true, recurses := true, named := ["unicode/utf8.first", "unicode/utf8.acceptRanges", "io.EOF"], apart := false, laid := [("unicode/utf8.acceptRanges", laid_unicode_utf8_acceptRanges), ("io.EOF", laid_io_EOF), ("unicode/utf8.first", laid_unicode_utf8_first)], narrowed := true }
def FnSingleScansUptoSaid : Prop := fnSingleScansUptoRow.holds Tryd.pinned (OpenSpec.upto fnSingleScansSpec)

/-- 'laws.FnBlockHeads', WHERE WHAT IT READS IS OF BULK AT MOST 1048576: true; the input reads as it did. -/
def fnBlockHeadsUptoRow : OpenClaim := { program := "ytocbbekciphjgaadoor", sum := "b4447d2549d7bc01e6573a548a4198494ea501f2ce488fee9a856a653ec85596", func := "given.example/pub-quincunx/laws.FnBlockHeads", spec := "fnBlockHeads", unfollowed := true, recurses := true, named := ["unicode/utf8.first", "unicode/utf8.acceptRanges", "io.EOF"], apart := false, laid := [("unicode/utf8.acceptRanges", laid_unicode_utf8_acceptRanges), ("io.EOF", laid_io_EOF), ("unicode/utf8.first", laid_unicode_utf8_first)], narrowed := true }
def FnBlockHeadsUptoSaid : Prop := fnBlockHeadsUptoRow.holds Tryd.pinned (OpenSpec.upto fnBlockHeadsSpec)

/-- 'laws.FnScalarScans', WHERE WHAT IT READS IS OF BULK AT MOST 1048576: true; the input reads as it did. -/
def fnScalarScansUptoRow : OpenClaim := { program := "ytocbbekciphjgaadoor", sum := "b4447d2549d7bc01e6573a548a4198494ea501f2ce488fee9a856a653ec85596", func := "given.example/pub-quincunx/laws.FnScalarScans", spec := "fnScalarScans", unfollowed := true, recurses := true, named := ["unicode/utf8.first", "unicode/utf8.acceptRanges", "io.EOF"], apart := false, laid := [("unicode/utf8.acceptRanges", laid_unicode_utf8_acceptRanges), ("io.EOF", laid_io_EOF), ("unicode/utf8.first", laid_unicode_utf8_first)], narrowed := true }
def FnScalarScansUptoSaid : Prop := fnScalarScansUptoRow.holds Tryd.pinned (OpenSpec.upto fnScalarScansSpec)

end Rows
end Go.Proofs.YtocbbekciphjgaaDoor
