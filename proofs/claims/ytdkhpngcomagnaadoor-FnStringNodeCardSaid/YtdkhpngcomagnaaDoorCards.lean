/-
  DERIVED. GIVEN WITH THE SEED: THE CARDS: each row of YtdkhpngcomagnaaDoorRows.lean that lists a variable, with what it lists TIED to the program's text (the seventh form; the later family's looks); each row that meets fmt, with fmt's text TOLD by the authors' own Lean function (tested against real Go, not proved from fmt's source: count such statements apart). THE CARD IS WHAT COUNTS. Prove the row's statement (the work); the ties are given (YtdkhpngcomagnaaDoorTie.lean); close each card by the builder's one call (the guide's Derived/Test/ToyasCard.lean, 'card_holds'). Laid BY PROGRAM, IN A SANDBOX (cutbox-door.mjs). By AI agents, Wed Nov 11 2026. No macro, syntax, notation, axiom, sorry.
-/
import Derived.Test.YtdkhpngcomagnaaDoorRows
import GoSem.ClaimSeven
namespace Go.Proofs.YtdkhpngcomagnaaDoor
namespace Rows

/-- THE TIED CARD OF 'laws.FnStringNode'. -/
def fnStringNodeCard : Claim7 := { stood := { row := fnStringNodeRow, standIns := [], harness := (true, "a271b22e96f6457bf59720408047ed77fd9fd614c7ec1068e17198870e1c867b"), looks := false }, kinds := [], alts := [], laidByText := true, laidKinds := [.data, .pinned], laidTests := true, laidLooks := .later }
def FnStringNodeCardSaid : Prop := Claim7.holds Tryd.pinned (.plain (OpenSpec.ofChange fnStringNodeSpec)) fnStringNodeCard

/-- THE SECOND FORM's CARD OF 'laws.FnStringNode'. -/
def fnStringNodeUptoCard : Claim7 := { stood := { row := fnStringNodeUptoRow, standIns := [], harness := (true, "a271b22e96f6457bf59720408047ed77fd9fd614c7ec1068e17198870e1c867b"), looks := false }, kinds := [], alts := [], laidByText := true, laidKinds := [.data, .pinned], laidTests := true, laidLooks := .later }
def FnStringNodeUptoCardSaid : Prop := Claim7.holds Tryd.pinned (.plain (OpenSpec.upto fnStringNodeSpec)) fnStringNodeUptoCard
end Rows
end Go.Proofs.YtdkhpngcomagnaaDoor
