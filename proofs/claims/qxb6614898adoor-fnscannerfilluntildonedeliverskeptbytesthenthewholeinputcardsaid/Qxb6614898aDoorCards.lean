/-
  DERIVED. GIVEN WITH THE SEED: THE CARDS: each row of Qxb6614898aDoorRows.lean that lists a variable, with what it lists TIED to the program's text (the seventh form; the later family's looks); each row that meets fmt, with fmt's text TOLD by the authors' own Lean function (tested against real Go, not proved from fmt's source: count such statements apart). THE CARD IS WHAT COUNTS. Prove the row's statement (the work); the ties are given (Qxb6614898aDoorTie.lean); close each card by the builder's one call (the guide's Derived/Test/ToyasCard.lean, 'card_holds'). Laid BY PROGRAM, IN A SANDBOX (cutbox-door.mjs). By AI agents, Wed Nov 11 2026. No macro, syntax, notation, axiom, sorry.
-/
import Derived.Test.Qxb6614898aDoorRows
import GoSem.ClaimSeven
namespace Go.Proofs.Qxb6614898aDoor
namespace Rows

/-- THE TIED CARD OF 'zzlaws_internal_cib_b1.FnDefinitionsKeyKeepsEarlierIdsAndReadsAnAddedOne'. -/
def fnDefinitionsKeyKeepsEarlierIdsAndReadsAnAddedOneCard : Claim7 := { stood := { row := fnDefinitionsKeyKeepsEarlierIdsAndReadsAnAddedOneRow, standIns := [], harness := (true, "d93f0abe0a2e6a19ee47094faf30bf8bde1c9b876061329bc4aada7f2c1470ef"), looks := true }, kinds := [], alts := [], laidByText := true, laidKinds := [.widerDeep], laidTests := true, laidLooks := .later }
def FnDefinitionsKeyKeepsEarlierIdsAndReadsAnAddedOneCardSaid : Prop := Claim7.holds Tryd.pinned (.plain (OpenSpec.ofChange fnDefinitionsKeyKeepsEarlierIdsAndReadsAnAddedOneSpec)) fnDefinitionsKeyKeepsEarlierIdsAndReadsAnAddedOneCard

/-- THE TIED CARD OF 'zzlaws_internal_cib_b1.FnScannerFillMatchesClosedForm'. -/
def fnScannerFillMatchesClosedFormCard : Claim7 := { stood := { row := fnScannerFillMatchesClosedFormRow, standIns := [], harness := (true, "d93f0abe0a2e6a19ee47094faf30bf8bde1c9b876061329bc4aada7f2c1470ef"), looks := true }, kinds := [], alts := [], laidByText := true, laidKinds := [.sentinel, .sentinel, .widerDeep], laidTests := true, laidLooks := .later }
def FnScannerFillMatchesClosedFormCardSaid : Prop := Claim7.holds Tryd.pinned (.plain (OpenSpec.ofChange fnScannerFillMatchesClosedFormSpec)) fnScannerFillMatchesClosedFormCard

/-- THE TIED CARD OF 'zzlaws_internal_cib_b1.FnScannerFillUntilDoneDeliversKeptBytesThenTheWholeInput'. -/
def fnScannerFillUntilDoneDeliversKeptBytesThenTheWholeInputCard : Claim7 := { stood := { row := fnScannerFillUntilDoneDeliversKeptBytesThenTheWholeInputRow, standIns := [], harness := (true, "d93f0abe0a2e6a19ee47094faf30bf8bde1c9b876061329bc4aada7f2c1470ef"), looks := true }, kinds := [], alts := [], laidByText := true, laidKinds := [.sentinel, .sentinel, .widerDeep], laidTests := true, laidLooks := .later }
def FnScannerFillUntilDoneDeliversKeptBytesThenTheWholeInputCardSaid : Prop := Claim7.holds Tryd.pinned (.plain (OpenSpec.ofChange fnScannerFillUntilDoneDeliversKeptBytesThenTheWholeInputSpec)) fnScannerFillUntilDoneDeliversKeptBytesThenTheWholeInputCard
end Rows
end Go.Proofs.Qxb6614898aDoor
