/-
  DERIVED. GIVEN WITH THE SEED: THE CARDS: each row of YtcmnjnogdpejfaaDoorRows.lean that lists a variable, with what it lists TIED to the program's text (the seventh form; the later family's looks); each row that meets fmt, with fmt's text TOLD by the authors' own Lean function (tested against real Go, not proved from fmt's source: count such statements apart). THE CARD IS WHAT COUNTS. Prove the row's statement (the work); the ties are given (YtcmnjnogdpejfaaDoorTie.lean); close each card by the builder's one call (the guide's Derived/Test/ToyasCard.lean, 'card_holds'). Laid BY PROGRAM, IN A SANDBOX (cutbox-door.mjs). By AI agents, Wed Nov 11 2026. No macro, syntax, notation, axiom, sorry.
-/
import Derived.Test.YtcmnjnogdpejfaaDoorRows
import GoSem.ClaimSeven
namespace Go.Proofs.YtcmnjnogdpejfaaDoor
namespace Rows

/-- THE TIED CARD OF 'laws.FnAnalysisLines'. -/
def fnAnalysisLinesCard : Claim7 := { stood := { row := fnAnalysisLinesRow, standIns := [], harness := (true, "07957413840f8bdc2b5086cef5b1c18dc58a11689426fa62776cabe92d84f783"), looks := false }, kinds := [], alts := [], laidByText := true, laidKinds := [.data, .pinned], laidTests := true, laidLooks := .later }
def FnAnalysisLinesCardSaid : Prop := Claim7.holds Tryd.pinned (.plain (OpenSpec.ofChange fnAnalysisLinesSpec)) fnAnalysisLinesCard

/-- THE SECOND FORM's CARD OF 'laws.FnAnalysisLines'. -/
def fnAnalysisLinesUptoCard : Claim7 := { stood := { row := fnAnalysisLinesUptoRow, standIns := [], harness := (true, "07957413840f8bdc2b5086cef5b1c18dc58a11689426fa62776cabe92d84f783"), looks := false }, kinds := [], alts := [], laidByText := true, laidKinds := [.data, .pinned], laidTests := true, laidLooks := .later }
def FnAnalysisLinesUptoCardSaid : Prop := Claim7.holds Tryd.pinned (.plain (OpenSpec.upto fnAnalysisLinesSpec)) fnAnalysisLinesUptoCard
end Rows
end Go.Proofs.YtcmnjnogdpejfaaDoor
