/-
  No cell of these rows narrows 'for every input' (looked for: loops, veiled, ifaces, maps, wideKeys, modest, calm, conditions, laid).
  DERIVED. THE GIVEN ROWS OF THIS SEAT. 6 by the template 'for every input the law returns true; each argument reads behind the call as it read before'; 0 by the template 'total and deterministic' (their statements: YtacmdmbdfkjhmaaRTotals.lean).
  GIVEN WITH THE SEED: the statements are not yours to turn. If you find one false, say at which input.
  Laid BY PROGRAM, IN A SANDBOX (cutbox-rows.mjs): the forced cells as the released guide's own fill.sh prints them over the translation 71c846b7265ab199… (all of the seat's roots in one cut). By AI agents, Wed Nov 11 2026. No macro, syntax, notation, axiom, sorry.
-/
import Derived.Test.YtacmdmbdfkjhmaaRChecked
import GoSem.Claim
import GoSem.ClaimJoined
import GoSem.ClaimMapViews
import Derived.JoinedTies
import Derived.KernelRfl
namespace Go.Proofs.YtacmdmbdfkjhmaaR
/- THE CELL 'sum', in the pinned program and in every row, IS THE sha256 OF THE DUMP (.gsa) THAT YtacmdmbdfkjhmaaRProg.lean LOADS. Nothing in Lean hashes anything: it is a label: what it is worth is what the hold of that sum in a sandbox is worth. -/
noncomputable def Try.pinned : Pinned := { name := "ytacmdmbdfkjhmaar", sum := "71c846b7265ab199c8edc3cfc1c63bf364ae50b1d1a9a09a09633c0ae1112907", checked := Try.checked }
namespace Rows
def none {H : Type} : Left H := { results := [], args := [] }

/-- 'laws.FnTagResolvable': WHATEVER THE INPUT: true; the input reads as it did. -/
def fnTagResolvableSpec : ChangeSpec := { name := "fnTagResolvable", fn := fun _ => fun
  | [d] => { results := [.lit (.bool true)], args := [d] }
  | _ => none }
def fnTagResolvableRow : OpenClaim := { program := "ytacmdmbdfkjhmaar", sum := "71c846b7265ab199c8edc3cfc1c63bf364ae50b1d1a9a09a09633c0ae1112907", func := "given.example/pub-quincunx/laws.FnTagResolvable", spec := "fnTagResolvable", apart := false }
def FnTagResolvableSaid : Prop := fnTagResolvableRow.holds Try.pinned (OpenSpec.ofChange fnTagResolvableSpec)

/-- ITS FALSE NEIGHBOUR: 'it returns false'. Refute it at one input. -/
def fnTagResolvableWrong : ChangeSpec := { name := "fnTagResolvable", fn := fun _ => fun
  | [d] => { results := [.lit (.bool false)], args := [d] }
  | _ => none }
def FnTagResolvableWrongFalsely : Prop := fnTagResolvableRow.holds Try.pinned (OpenSpec.ofChange fnTagResolvableWrong)

/-- 'laws.FnTagLong': WHATEVER THE INPUT: true; the input reads as it did. -/
def fnTagLongSpec : ChangeSpec := { name := "fnTagLong", fn := fun _ => fun
  | [d] => { results := [.lit (.bool true)], args := [d] }
  | _ => none }
def fnTagLongRow : OpenClaim := { program := "ytacmdmbdfkjhmaar", sum := "71c846b7265ab199c8edc3cfc1c63bf364ae50b1d1a9a09a09633c0ae1112907", func := "given.example/pub-quincunx/laws.FnTagLong", spec := "fnTagLong", apart := false }
def FnTagLongSaid : Prop := fnTagLongRow.holds Try.pinned (OpenSpec.ofChange fnTagLongSpec)

/-- ITS FALSE NEIGHBOUR: 'it returns false'. Refute it at one input. -/
def fnTagLongWrong : ChangeSpec := { name := "fnTagLong", fn := fun _ => fun
  | [d] => { results := [.lit (.bool false)], args := [d] }
  | _ => none }
def FnTagLongWrongFalsely : Prop := fnTagLongRow.holds Try.pinned (OpenSpec.ofChange fnTagLongWrong)

/-- 'laws.FnDigits': WHATEVER THE INPUT: true; the input reads as it did. -/
def fnDigitsSpec : ChangeSpec := { name := "fnDigits", fn := fun _ => fun
  | [d1, d2] => { results := [.lit (.bool true)], args := [d1, d2] }
  | _ => none }
def fnDigitsRow : OpenClaim := { program := "ytacmdmbdfkjhmaar", sum := "71c846b7265ab199c8edc3cfc1c63bf364ae50b1d1a9a09a09633c0ae1112907", func := "given.example/pub-quincunx/laws.FnDigits", spec := "fnDigits", apart := false }
def FnDigitsSaid : Prop := fnDigitsRow.holds Try.pinned (OpenSpec.ofChange fnDigitsSpec)

/-- ITS FALSE NEIGHBOUR: 'it returns false'. Refute it at one input. -/
def fnDigitsWrong : ChangeSpec := { name := "fnDigits", fn := fun _ => fun
  | [d1, d2] => { results := [.lit (.bool false)], args := [d1, d2] }
  | _ => none }
def FnDigitsWrongFalsely : Prop := fnDigitsRow.holds Try.pinned (OpenSpec.ofChange fnDigitsWrong)

/-- 'laws.FnBase64': WHATEVER THE INPUT: true; the input reads as it did. -/
def fnBase64Spec : ChangeSpec := { name := "fnBase64", fn := fun _ => fun
  | [d] => { results := [.lit (.bool true)], args := [d] }
  | _ => none }
def fnBase64Row : OpenClaim := { program := "ytacmdmbdfkjhmaar", sum := "71c846b7265ab199c8edc3cfc1c63bf364ae50b1d1a9a09a09633c0ae1112907", func := "given.example/pub-quincunx/laws.FnBase64", spec := "fnBase64", apart := false }
def FnBase64Said : Prop := fnBase64Row.holds Try.pinned (OpenSpec.ofChange fnBase64Spec)

/-- ITS FALSE NEIGHBOUR: 'it returns false'. Refute it at one input. -/
def fnBase64Wrong : ChangeSpec := { name := "fnBase64", fn := fun _ => fun
  | [d] => { results := [.lit (.bool false)], args := [d] }
  | _ => none }
def FnBase64WrongFalsely : Prop := fnBase64Row.holds Try.pinned (OpenSpec.ofChange fnBase64Wrong)

/-- 'laws.FnBase60': WHATEVER THE INPUT: true; the input reads as it did. -/
def fnBase60Spec : ChangeSpec := { name := "fnBase60", fn := fun _ => fun
  | [d] => { results := [.lit (.bool true)], args := [d] }
  | _ => none }
def fnBase60Row : OpenClaim := { program := "ytacmdmbdfkjhmaar", sum := "71c846b7265ab199c8edc3cfc1c63bf364ae50b1d1a9a09a09633c0ae1112907", func := "given.example/pub-quincunx/laws.FnBase60", spec := "fnBase60", apart := false }
def FnBase60Said : Prop := fnBase60Row.holds Try.pinned (OpenSpec.ofChange fnBase60Spec)

/-- ITS FALSE NEIGHBOUR: 'it returns false'. Refute it at one input. -/
def fnBase60Wrong : ChangeSpec := { name := "fnBase60", fn := fun _ => fun
  | [d] => { results := [.lit (.bool false)], args := [d] }
  | _ => none }
def FnBase60WrongFalsely : Prop := fnBase60Row.holds Try.pinned (OpenSpec.ofChange fnBase60Wrong)

/-- 'laws.FnPrintables': WHATEVER THE INPUT: true; the input reads as it did. -/
def fnPrintablesSpec : ChangeSpec := { name := "fnPrintables", fn := fun _ => fun
  | [d] => { results := [.lit (.bool true)], args := [d] }
  | _ => none }
def fnPrintablesRow : OpenClaim := { program := "ytacmdmbdfkjhmaar", sum := "71c846b7265ab199c8edc3cfc1c63bf364ae50b1d1a9a09a09633c0ae1112907", func := "given.example/pub-quincunx/laws.FnPrintables", spec := "fnPrintables", apart := false }
def FnPrintablesSaid : Prop := fnPrintablesRow.holds Try.pinned (OpenSpec.ofChange fnPrintablesSpec)

/-- ITS FALSE NEIGHBOUR: 'it returns false'. Refute it at one input. -/
def fnPrintablesWrong : ChangeSpec := { name := "fnPrintables", fn := fun _ => fun
  | [d] => { results := [.lit (.bool false)], args := [d] }
  | _ => none }
def FnPrintablesWrongFalsely : Prop := fnPrintablesRow.holds Try.pinned (OpenSpec.ofChange fnPrintablesWrong)

/- THE SECOND FORM. 'bulk': how many values and letters a reading holds, each counted each time it is reached (what is shared counts as often as it is met; a slice's spare places count too). A statement '..UptoSaid' is the law's where the arguments, and the package variables that the reading takes, are together of bulk at most 1048576: NARROWER than '..Said'. Prove '..Said' where nothing that the law and all that it calls make is longer than what came in: it says more and counts as full. Else prove '..UptoSaid'. A law counts once. -/
mutual
def uptoBulk {H : Type} : DataW H → Nat
  | .lit (.string bytes) => bytes.length + 1
  | .lit _ => 1
  | .nil => 1
  | .ptr d => uptoBulk d + 1
  | .slice elems spare => uptoBulkAll elems + uptoBulkAll spare + 1
  | .agg parts => uptoBulkAll parts + 1
  | .iface _ d => uptoBulk d + 1
  | .map entries => uptoBulkEntries entries + 1
  | .held _ => 1
def uptoBulkAll {H : Type} : List (DataW H) → Nat
  | [] => 0
  | d :: r => uptoBulk d + uptoBulkAll r
def uptoBulkEntries {H : Type} : List (Lit × DataW H) → Nat
  | [] => 0
  | x :: r => uptoBulkEntry x + uptoBulkEntries r
def uptoBulkEntry {H : Type} : Lit × DataW H → Nat
  | (.string bytes, d) => bytes.length + uptoBulk d + 1
  | (_, d) => uptoBulk d + 1
 end
def uptoSmall : (H : Type) → List (DataW H) → Bool := fun _ ds => decide (uptoBulkAll ds ≤ 1048576)
def OpenSpec.upto (s : _root_.Go.ChangeSpec) : _root_.Go.OpenSpec := { _root_.Go.OpenSpec.ofChange s with cond := some uptoSmall }

/-- 'laws.FnTagResolvable', WHERE WHAT IT READS IS OF BULK AT MOST 1048576: true; the input reads as it did. -/
def fnTagResolvableUptoRow : OpenClaim := { program := "ytacmdmbdfkjhmaar", sum := "71c846b7265ab199c8edc3cfc1c63bf364ae50b1d1a9a09a09633c0ae1112907", func := "given.example/pub-quincunx/laws.FnTagResolvable", spec := "fnTagResolvable", apart := false, narrowed := true }
def FnTagResolvableUptoSaid : Prop := fnTagResolvableUptoRow.holds Try.pinned (OpenSpec.upto fnTagResolvableSpec)

/-- 'laws.FnTagLong', WHERE WHAT IT READS IS OF BULK AT MOST 1048576: true; the input reads as it did. -/
def fnTagLongUptoRow : OpenClaim := { program := "ytacmdmbdfkjhmaar", sum := "71c846b7265ab199c8edc3cfc1c63bf364ae50b1d1a9a09a09633c0ae1112907", func := "given.example/pub-quincunx/laws.FnTagLong", spec := "fnTagLong", apart := false, narrowed := true }
def FnTagLongUptoSaid : Prop := fnTagLongUptoRow.holds Try.pinned (OpenSpec.upto fnTagLongSpec)

/-- 'laws.FnDigits', WHERE WHAT IT READS IS OF BULK AT MOST 1048576: true; the input reads as it did. -/
def fnDigitsUptoRow : OpenClaim := { program := "ytacmdmbdfkjhmaar", sum := "71c846b7265ab199c8edc3cfc1c63bf364ae50b1d1a9a09a09633c0ae1112907", func := "given.example/pub-quincunx/laws.FnDigits", spec := "fnDigits", apart := false, narrowed := true }
def FnDigitsUptoSaid : Prop := fnDigitsUptoRow.holds Try.pinned (OpenSpec.upto fnDigitsSpec)

/-- 'laws.FnBase64', WHERE WHAT IT READS IS OF BULK AT MOST 1048576: true; the input reads as it did. -/
def fnBase64UptoRow : OpenClaim := { program := "ytacmdmbdfkjhmaar", sum := "71c846b7265ab199c8edc3cfc1c63bf364ae50b1d1a9a09a09633c0ae1112907", func := "given.example/pub-quincunx/laws.FnBase64", spec := "fnBase64", apart := false, narrowed := true }
def FnBase64UptoSaid : Prop := fnBase64UptoRow.holds Try.pinned (OpenSpec.upto fnBase64Spec)

/-- 'laws.FnBase60', WHERE WHAT IT READS IS OF BULK AT MOST 1048576: true; the input reads as it did. -/
def fnBase60UptoRow : OpenClaim := { program := "ytacmdmbdfkjhmaar", sum := "71c846b7265ab199c8edc3cfc1c63bf364ae50b1d1a9a09a09633c0ae1112907", func := "given.example/pub-quincunx/laws.FnBase60", spec := "fnBase60", apart := false, narrowed := true }
def FnBase60UptoSaid : Prop := fnBase60UptoRow.holds Try.pinned (OpenSpec.upto fnBase60Spec)

/-- 'laws.FnPrintables', WHERE WHAT IT READS IS OF BULK AT MOST 1048576: true; the input reads as it did. -/
def fnPrintablesUptoRow : OpenClaim := { program := "ytacmdmbdfkjhmaar", sum := "71c846b7265ab199c8edc3cfc1c63bf364ae50b1d1a9a09a09633c0ae1112907", func := "given.example/pub-quincunx/laws.FnPrintables", spec := "fnPrintables", apart := false, narrowed := true }
def FnPrintablesUptoSaid : Prop := fnPrintablesUptoRow.holds Try.pinned (OpenSpec.upto fnPrintablesSpec)

end Rows
end Go.Proofs.YtacmdmbdfkjhmaaR
