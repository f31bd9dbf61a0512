/-
  DERIVED. GIVEN WITH THE SEED: THE CARDS: each row of YtocbbekciphjgaaDoorRows.lean that lists a variable, with what it lists TIED to the program's text (the seventh form; the later family's looks); each row that meets fmt, with fmt's text TOLD by the authors' own Lean function (tested against real Go, not proved from fmt's source: count such statements apart). THE CARD IS WHAT COUNTS. Prove the row's statement (the work); the ties are given (YtocbbekciphjgaaDoorTie.lean); close each card by the builder's one call (the guide's Derived/Test/ToyasCard.lean, 'card_holds'). Laid BY PROGRAM, IN A SANDBOX (cutbox-door.mjs). By AI agents, Wed Nov 11 2026. No macro, syntax, notation, axiom, sorry.
-/
import Derived.Test.YtocbbekciphjgaaDoorRows
import GoSem.ClaimSeven
namespace Go.Proofs.YtocbbekciphjgaaDoor
namespace Rows

/-- THE TIED CARD OF 'laws.FnEncodingTold'. -/
def fnEncodingToldCard : Claim7 := { stood := { row := fnEncodingToldRow, standIns := [], harness := (true, "e98277a42ef3d9bcce5b67e5feaea9c380d91a6eca5a003a41a9690f1ab8b367"), looks := true }, kinds := [], alts := [], laidByText := true, laidKinds := [.sentinel], laidTests := true, laidLooks := .later }
def FnEncodingToldCardSaid : Prop := Claim7.holds Tryd.pinned (.plain (OpenSpec.ofChange fnEncodingToldSpec)) fnEncodingToldCard

/-- THE TIED CARD OF 'laws.FnVersionsScanned'. -/
def fnVersionsScannedCard : Claim7 := { stood := { row := fnVersionsScannedRow, standIns := [], harness := (true, "e98277a42ef3d9bcce5b67e5feaea9c380d91a6eca5a003a41a9690f1ab8b367"), looks := true }, kinds := [], alts := [], laidByText := true, laidKinds := [.sentinel], laidTests := true, laidLooks := .later }
def FnVersionsScannedCardSaid : Prop := Claim7.holds Tryd.pinned (.plain (OpenSpec.ofChange fnVersionsScannedSpec)) fnVersionsScannedCard

/-- THE TIED CARD OF 'laws.FnAnchorsScanned'. -/
def fnAnchorsScannedCard : Claim7 := { stood := { row := fnAnchorsScannedRow, standIns := [], harness := (true, "e98277a42ef3d9bcce5b67e5feaea9c380d91a6eca5a003a41a9690f1ab8b367"), looks := true }, kinds := [], alts := [], laidByText := true, laidKinds := [.sentinel], laidTests := true, laidLooks := .later }
def FnAnchorsScannedCardSaid : Prop := Claim7.holds Tryd.pinned (.plain (OpenSpec.ofChange fnAnchorsScannedSpec)) fnAnchorsScannedCard

/-- THE TIED CARD OF 'laws.FnTagsScanned'. -/
def fnTagsScannedCard : Claim7 := { stood := { row := fnTagsScannedRow, standIns := [], harness := (true, "e98277a42ef3d9bcce5b67e5feaea9c380d91a6eca5a003a41a9690f1ab8b367"), looks := true }, kinds := [], alts := [], laidByText := true, laidKinds := [.sentinel], laidTests := true, laidLooks := .later }
def FnTagsScannedCardSaid : Prop := Claim7.holds Tryd.pinned (.plain (OpenSpec.ofChange fnTagsScannedSpec)) fnTagsScannedCard

/-- THE TIED CARD OF 'laws.FnDoubleScans'. -/
def fnDoubleScansCard : Claim7 := { stood := { row := fnDoubleScansRow, standIns := [], harness := (true, "e98277a42ef3d9bcce5b67e5feaea9c380d91a6eca5a003a41a9690f1ab8b367"), looks := true }, kinds := [], alts := [], laidByText := true, laidKinds := [.data, .sentinel, .pinned], laidTests := true, laidLooks := .later }
def FnDoubleScansCardSaid : Prop := Claim7.holds Tryd.pinned (.plain (OpenSpec.ofChange fnDoubleScansSpec)) fnDoubleScansCard

/-- THE TIED CARD OF 'laws.FnSingleScans'. -/
def fnSingleScansCard : Claim7 := { stood := { row := fnSingleScansRow, standIns := [], harness := (true, "e98277a42ef3d9bcce5b67e5feaea9c380d91a6eca5a003a41a9690f1ab8b367"), looks := true }, kinds := [], alts := [], laidByText := true, laidKinds := [.data, .sentinel, .pinned], laidTests := true, laidLooks := .later }
def FnSingleScansCardSaid : Prop := Claim7.holds Tryd.pinned (.plain (OpenSpec.ofChange fnSingleScansSpec)) fnSingleScansCard

/-- THE TIED CARD OF 'laws.FnBlockHeads'. -/
def fnBlockHeadsCard : Claim7 := { stood := { row := fnBlockHeadsRow, standIns := [], harness := (true, "e98277a42ef3d9bcce5b67e5feaea9c380d91a6eca5a003a41a9690f1ab8b367"), looks := true }, kinds := [], alts := [], laidByText := true, laidKinds := [.data, .sentinel, .pinned], laidTests := true, laidLooks := .later }
def FnBlockHeadsCardSaid : Prop := Claim7.holds Tryd.pinned (.plain (OpenSpec.ofChange fnBlockHeadsSpec)) fnBlockHeadsCard

/-- THE TIED CARD OF 'laws.FnScalarScans'. -/
def fnScalarScansCard : Claim7 := { stood := { row := fnScalarScansRow, standIns := [], harness := (true, "e98277a42ef3d9bcce5b67e5feaea9c380d91a6eca5a003a41a9690f1ab8b367"), looks := true }, kinds := [], alts := [], laidByText := true, laidKinds := [.data, .sentinel, .pinned], laidTests := true, laidLooks := .later }
def FnScalarScansCardSaid : Prop := Claim7.holds Tryd.pinned (.plain (OpenSpec.ofChange fnScalarScansSpec)) fnScalarScansCard

/-- THE SECOND FORM's CARD OF 'laws.FnEncodingTold'. -/
def fnEncodingToldUptoCard : Claim7 := { stood := { row := fnEncodingToldUptoRow, standIns := [], harness := (true, "e98277a42ef3d9bcce5b67e5feaea9c380d91a6eca5a003a41a9690f1ab8b367"), looks := true }, kinds := [], alts := [], laidByText := true, laidKinds := [.sentinel], laidTests := true, laidLooks := .later }
def FnEncodingToldUptoCardSaid : Prop := Claim7.holds Tryd.pinned (.plain (OpenSpec.upto fnEncodingToldSpec)) fnEncodingToldUptoCard

/-- THE SECOND FORM's CARD OF 'laws.FnVersionsScanned'. -/
def fnVersionsScannedUptoCard : Claim7 := { stood := { row := fnVersionsScannedUptoRow, standIns := [], harness := (true, "e98277a42ef3d9bcce5b67e5feaea9c380d91a6eca5a003a41a9690f1ab8b367"), looks := true }, kinds := [], alts := [], laidByText := true, laidKinds := [.sentinel], laidTests := true, laidLooks := .later }
def FnVersionsScannedUptoCardSaid : Prop := Claim7.holds Tryd.pinned (.plain (OpenSpec.upto fnVersionsScannedSpec)) fnVersionsScannedUptoCard

/-- THE SECOND FORM's CARD OF 'laws.FnAnchorsScanned'. -/
def fnAnchorsScannedUptoCard : Claim7 := { stood := { row := fnAnchorsScannedUptoRow, standIns := [], harness := (true, "e98277a42ef3d9bcce5b67e5feaea9c380d91a6eca5a003a41a9690f1ab8b367"), looks := true }, kinds := [], alts := [], laidByText := true, laidKinds := [.sentinel], laidTests := true, laidLooks := .later }
def FnAnchorsScannedUptoCardSaid : Prop := Claim7.holds Tryd.pinned (.plain (OpenSpec.upto fnAnchorsScannedSpec)) fnAnchorsScannedUptoCard

/-- THE SECOND FORM's CARD OF 'laws.FnTagsScanned'. -/
def fnTagsScannedUptoCard : Claim7 := { stood := { row := fnTagsScannedUptoRow, standIns := [], harness := (true, "e98277a42ef3d9bcce5b67e5feaea9c380d91a6eca5a003a41a9690f1ab8b367"), looks := true }, kinds := [], alts := [], laidByText := true, laidKinds := [.sentinel], laidTests := true, laidLooks := .later }
def FnTagsScannedUptoCardSaid : Prop := Claim7.holds Tryd.pinned (.plain (OpenSpec.upto fnTagsScannedSpec)) fnTagsScannedUptoCard

/-- THE SECOND FORM's CARD OF 'laws.FnDoubleScans'. -/
def fnDoubleScansUptoCard : Claim7 := { stood := { row := fnDoubleScansUptoRow, standIns := [], harness := (true, "e98277a42ef3d9bcce5b67e5feaea9c380d91a6eca5a003a41a9690f1ab8b367"), looks := true }, kinds := [], alts := [], laidByText := true, laidKinds := [.data, .sentinel, .pinned], laidTests := true, laidLooks := .later }
def FnDoubleScansUptoCardSaid : Prop := Claim7.holds Tryd.pinned (.plain (OpenSpec.upto fnDoubleScansSpec)) fnDoubleScansUptoCard

/-- THE SECOND FORM's CARD OF 'laws.FnSingleScans'. -/
def fnSingleScansUptoCard : Claim7 := { stood := { row := fnSingleScansUptoRow, standIns := [], harness := (true, "e98277a42ef3d9bcce5b67e5feaea9c380d91a6eca5a003a41a9690f1ab8b367"), looks := true }, kinds := [], alts := [], laidByText := true, laidKinds := [.data, .sentinel, .pinned], laidTests := true, laidLooks := .later }
def FnSingleScansUptoCardSaid : Prop := Claim7.holds Tryd.pinned (.plain (OpenSpec.upto fnSingleScansSpec)) fnSingleScansUptoCard

/-- THE SECOND FORM's CARD OF 'laws.FnBlockHeads'. -/
def fnBlockHeadsUptoCard : Claim7 := { stood := { row := fnBlockHeadsUptoRow, standIns := [], harness := (true, "e98277a42ef3d9bcce5b67e5feaea9c380d91a6eca5a003a41a9690f1ab8b367"), looks := true }, kinds := [], alts := [], laidByText := true, laidKinds := [.data, .sentinel, .pinned], laidTests := true, laidLooks := .later }
def FnBlockHeadsUptoCardSaid : Prop := Claim7.holds Tryd.pinned (.plain (OpenSpec.upto fnBlockHeadsSpec)) fnBlockHeadsUptoCard

/-- THE SECOND FORM's CARD OF 'laws.FnScalarScans'. -/
def fnScalarScansUptoCard : Claim7 := { stood := { row := fnScalarScansUptoRow, standIns := [], harness := (true, "e98277a42ef3d9bcce5b67e5feaea9c380d91a6eca5a003a41a9690f1ab8b367"), looks := true }, kinds := [], alts := [], laidByText := true, laidKinds := [.data, .sentinel, .pinned], laidTests := true, laidLooks := .later }
def FnScalarScansUptoCardSaid : Prop := Claim7.holds Tryd.pinned (.plain (OpenSpec.upto fnScalarScansSpec)) fnScalarScansUptoCard
end Rows
end Go.Proofs.YtocbbekciphjgaaDoor
