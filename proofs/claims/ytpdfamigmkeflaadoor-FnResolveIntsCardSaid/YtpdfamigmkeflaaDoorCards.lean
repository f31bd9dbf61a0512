/-
  DERIVED. GIVEN WITH THE SEED: THE CARDS: each row of YtpdfamigmkeflaaDoorRows.lean that lists a variable, with what it lists TIED to the program's text (the seventh form; the later family's looks); each row that meets fmt, with fmt's text TOLD by the authors' own Lean function (tested against real Go, not proved from fmt's source: count such statements apart). THE CARD IS WHAT COUNTS. Prove the row's statement (the work); the ties are given (YtpdfamigmkeflaaDoorTie.lean); close each card by the builder's one call (the guide's Derived/Test/ToyasCard.lean, 'card_holds'). Laid BY PROGRAM, IN A SANDBOX (cutbox-door.mjs). By AI agents, Wed Nov 11 2026. No macro, syntax, notation, axiom, sorry.
-/
import Derived.Test.YtpdfamigmkeflaaDoorRows
import GoSem.ClaimSeven
namespace Go.Proofs.YtpdfamigmkeflaaDoor
namespace Rows

/-- THE TIED CARD OF 'laws.FnResolveInts'. -/
def fnResolveIntsCard : Claim7 := { stood := { row := fnResolveIntsRow, standIns := [], harness := (true, "103dc0862d4c4922dba631fc06de36931650fa917f6dd00c4ea2785f5ab067b2"), looks := true }, kinds := [], alts := [], laidByText := true, laidKinds := [.data, .data, .widerDeep, .widerDeep, .data, .data, .data, .data, .data, .sentinel, .sentinel, .pinned, .pinned], laidTests := true, laidLooks := .later }
def FnResolveIntsCardSaid : Prop := Claim7.holds Tryd.pinned (.plain (OpenSpec.ofChange fnResolveIntsSpec)) fnResolveIntsCard

/-- THE SECOND FORM's CARD OF 'laws.FnResolveInts'. -/
def fnResolveIntsUptoCard : Claim7 := { stood := { row := fnResolveIntsUptoRow, standIns := [], harness := (true, "103dc0862d4c4922dba631fc06de36931650fa917f6dd00c4ea2785f5ab067b2"), looks := true }, kinds := [], alts := [], laidByText := true, laidKinds := [.data, .data, .widerDeep, .widerDeep, .data, .data, .data, .data, .data, .sentinel, .sentinel, .pinned, .pinned], laidTests := true, laidLooks := .later }
def FnResolveIntsUptoCardSaid : Prop := Claim7.holds Tryd.pinned (.plain (OpenSpec.upto fnResolveIntsSpec)) fnResolveIntsUptoCard
end Rows
end Go.Proofs.YtpdfamigmkeflaaDoor
