/-
  NARROWER THAN 'FOR EVERY INPUT', by the rows' own cells (each row's printed sentence says how): FnDefinitionsKeyKeepsEarlierIdsAndReadsAnAddedOne: laid · FnScannerFillMatchesClosedForm: laid · FnScannerFillUntilDoneDeliversKeptBytesThenTheWholeInput: laid.
  DERIVED. THE GIVEN ROWS OF THIS SEAT. 3 by the template 'for every input the law returns true; each argument reads behind the call as it read before'; 0 by the template 'total and deterministic' (their statements: Qxb6614898aDoorTotals.lean).
  GIVEN WITH THE SEED: the statements are not yours to turn. If you find one false, say at which input.
  Laid BY PROGRAM, IN A SANDBOX (cutbox-rows.mjs): the forced cells as the released guide's own fill.sh prints them over the translation 0b6b601eadadd981… (all of the seat's roots in one cut). By AI agents, Wed Nov 11 2026. No macro, syntax, notation, axiom, sorry.
-/
import Derived.Test.Qxb6614898aDoorChecked
import GoSem.Claim
import GoSem.ClaimJoined
import GoSem.ClaimMapViews
import Derived.JoinedTies
import Derived.KernelRfl
namespace Go.Proofs.Qxb6614898aDoor
/- THE CELL 'sum', in the pinned program and in every row, IS THE sha256 OF THE DUMP (.gsa) THAT Qxb6614898aDoorProg.lean LOADS. Nothing in Lean hashes anything: it is a label: what it is worth is what the hold of that sum in a sandbox is worth. -/
noncomputable def Tryd.pinned : Pinned := { name := "qxb6614898adoor", sum := "0b6b601eadadd981fb6e4bbb8a06454374ae37920eda9f86f19088e2a09a9328", checked := Tryd.checked }
namespace Rows
def none {H : Type} : Left H := { results := [], args := [] }

/- WHAT THE LISTED PACKAGE-LEVEL VARIABLES READ AS WHEN THE CALL BEGINS. Each datum BY PROGRAM (the guide's laid-datum.mjs) off the statement by which the dump's own 'gosem.cut.vars' lays the variable. In a bare row this is a premise. The card (Qxb6614898aDoorCards.lean) ties it to the program's text. -/
def laid_example_com_quorumwatch_quorumwatch_internal_cib_zero {H : Type} : DataW H := .slice [.lit (.int .u8 0)] []
def laid_io_EOF {H : Type} : DataW H := .iface "*errors.errorString" (.ptr (.agg [.lit (.string [69, 79, 70])]))
def laid_io_ErrNoProgress {H : Type} : DataW H := .iface "*errors.errorString" (.ptr (.agg [.lit (.string [109, 117, 108, 116, 105, 112, 108, 101, 32, 82, 101, 97, 100, 32, 99, 97, 108, 108, 115, 32, 114, 101, 116, 117, 114, 110, 32, 110, 111, 32, 100, 97, 116, 97, 32, 111, 114, 32, 101, 114, 114, 111, 114])]))
def laid_example_com_quorumwatch_quorumwatch_internal_cib_newline {H : Type} : DataW H := .slice [.lit (.int .u8 10)] []

/-- 'zzlaws_internal_cib_b1.FnDefinitionsKeyKeepsEarlierIdsAndReadsAnAddedOne': WHATEVER THE INPUT: true; the input reads as it did. -/
def fnDefinitionsKeyKeepsEarlierIdsAndReadsAnAddedOneSpec : ChangeSpec := { name := "fnDefinitionsKeyKeepsEarlierIdsAndReadsAnAddedOne", vars := ["example.com/quorumwatch/quorumwatch/internal/cib.zero"], fn := fun _ => fun
  | [d1, d2, d3, d4, g1] => { results := [.lit (.bool true)], args := [d1, d2, d3, d4], vars := [g1] }
  | _ => none }
def fnDefinitionsKeyKeepsEarlierIdsAndReadsAnAddedOneRow : OpenClaim := { program := "qxb6614898adoor", sum := "0b6b601eadadd981fb6e4bbb8a06454374ae37920eda9f86f19088e2a09a9328", func := "example.com/quorumwatch/quorumwatch/zzlaws_internal_cib_b1.FnDefinitionsKeyKeepsEarlierIdsAndReadsAnAddedOne", spec := "fnDefinitionsKeyKeepsEarlierIdsAndReadsAnAddedOne", inPlace := ["internal/bytealg.IndexByte", "internal/bytealg.Index"], named := ["example.com/quorumwatch/quorumwatch/internal/cib.zero", "internal/bytealg.MaxLen"], apart := false, laid := [("example.com/quorumwatch/quorumwatch/internal/cib.zero", laid_example_com_quorumwatch_quorumwatch_internal_cib_zero)] }
def FnDefinitionsKeyKeepsEarlierIdsAndReadsAnAddedOneSaid : Prop := fnDefinitionsKeyKeepsEarlierIdsAndReadsAnAddedOneRow.holds Tryd.pinned (OpenSpec.ofChange fnDefinitionsKeyKeepsEarlierIdsAndReadsAnAddedOneSpec)

/-- ITS FALSE NEIGHBOUR: 'it returns false'. Refute it at one input. -/
def fnDefinitionsKeyKeepsEarlierIdsAndReadsAnAddedOneWrong : ChangeSpec := { name := "fnDefinitionsKeyKeepsEarlierIdsAndReadsAnAddedOne", vars := ["example.com/quorumwatch/quorumwatch/internal/cib.zero"], fn := fun _ => fun
  | [d1, d2, d3, d4, g1] => { results := [.lit (.bool false)], args := [d1, d2, d3, d4], vars := [g1] }
  | _ => none }
def FnDefinitionsKeyKeepsEarlierIdsAndReadsAnAddedOneWrongFalsely : Prop := fnDefinitionsKeyKeepsEarlierIdsAndReadsAnAddedOneRow.holds Tryd.pinned (OpenSpec.ofChange fnDefinitionsKeyKeepsEarlierIdsAndReadsAnAddedOneWrong)

/-- 'zzlaws_internal_cib_b1.FnScannerFillMatchesClosedForm': WHATEVER THE INPUT: true; the input reads as it did. -/
def fnScannerFillMatchesClosedFormSpec : ChangeSpec := { name := "fnScannerFillMatchesClosedForm", vars := ["example.com/quorumwatch/quorumwatch/internal/cib.newline"], fn := fun _ => fun
  | [d1, d2, d3, d4, d5, d6, g1] => { results := [.lit (.bool true)], args := [d1, d2, d3, d4, d5, d6], vars := [g1] }
  | _ => none }
def fnScannerFillMatchesClosedFormRow : OpenClaim := { program := "qxb6614898adoor", sum := "0b6b601eadadd981fb6e4bbb8a06454374ae37920eda9f86f19088e2a09a9328", func := "example.com/quorumwatch/quorumwatch/zzlaws_internal_cib_b1.FnScannerFillMatchesClosedForm", spec := "fnScannerFillMatchesClosedForm", inPlace := ["internal/bytealg.Count", "internal/bytealg.IndexByte", "internal/bytealg.Index"], unfollowed := true, recurses := true, named := ["example.com/quorumwatch/quorumwatch/internal/cib.newline", "io.EOF", "io.ErrNoProgress", "internal/bytealg.MaxLen"], apart := false, laid := [("io.EOF", laid_io_EOF), ("io.ErrNoProgress", laid_io_ErrNoProgress), ("example.com/quorumwatch/quorumwatch/internal/cib.newline", laid_example_com_quorumwatch_quorumwatch_internal_cib_newline)] }
def FnScannerFillMatchesClosedFormSaid : Prop := fnScannerFillMatchesClosedFormRow.holds Tryd.pinned (OpenSpec.ofChange fnScannerFillMatchesClosedFormSpec)

/-- ITS FALSE NEIGHBOUR: 'it returns false'. Refute it at one input. -/
def fnScannerFillMatchesClosedFormWrong : ChangeSpec := { name := "fnScannerFillMatchesClosedForm", vars := ["example.com/quorumwatch/quorumwatch/internal/cib.newline"], fn := fun _ => fun
  | [d1, d2, d3, d4, d5, d6, g1] => { results := [.lit (.bool false)], args := [d1, d2, d3, d4, d5, d6], vars := [g1] }
  | _ => none }
def FnScannerFillMatchesClosedFormWrongFalsely : Prop := fnScannerFillMatchesClosedFormRow.holds Tryd.pinned (OpenSpec.ofChange fnScannerFillMatchesClosedFormWrong)

/-- 'zzlaws_internal_cib_b1.FnScannerFillUntilDoneDeliversKeptBytesThenTheWholeInput': WHATEVER THE INPUT: true; the input reads as it did. -/
def fnScannerFillUntilDoneDeliversKeptBytesThenTheWholeInputSpec : ChangeSpec := { name := "fnScannerFillUntilDoneDeliversKeptBytesThenTheWholeInput", vars := ["example.com/quorumwatch/quorumwatch/internal/cib.newline"], fn := fun _ => fun
  | [d1, d2, d3, d4, d5, d6, g1] => { results := [.lit (.bool true)], args := [d1, d2, d3, d4, d5, d6], vars := [g1] }
  | _ => none }
def fnScannerFillUntilDoneDeliversKeptBytesThenTheWholeInputRow : OpenClaim := { program := "qxb6614898adoor", sum := "0b6b601eadadd981fb6e4bbb8a06454374ae37920eda9f86f19088e2a09a9328", func := "example.com/quorumwatch/quorumwatch/zzlaws_internal_cib_b1.FnScannerFillUntilDoneDeliversKeptBytesThenTheWholeInput", spec := "fnScannerFillUntilDoneDeliversKeptBytesThenTheWholeInput", inPlace := ["internal/bytealg.Count", "internal/bytealg.IndexByte", "internal/bytealg.Index"], unfollowed := true, recurses := true, named := ["example.com/quorumwatch/quorumwatch/internal/cib.newline", "io.EOF", "io.ErrNoProgress", "internal/bytealg.MaxLen"], apart := false, laid := [("io.EOF", laid_io_EOF), ("io.ErrNoProgress", laid_io_ErrNoProgress), ("example.com/quorumwatch/quorumwatch/internal/cib.newline", laid_example_com_quorumwatch_quorumwatch_internal_cib_newline)] }
def FnScannerFillUntilDoneDeliversKeptBytesThenTheWholeInputSaid : Prop := fnScannerFillUntilDoneDeliversKeptBytesThenTheWholeInputRow.holds Tryd.pinned (OpenSpec.ofChange fnScannerFillUntilDoneDeliversKeptBytesThenTheWholeInputSpec)

/-- ITS FALSE NEIGHBOUR: 'it returns false'. Refute it at one input. -/
def fnScannerFillUntilDoneDeliversKeptBytesThenTheWholeInputWrong : ChangeSpec := { name := "fnScannerFillUntilDoneDeliversKeptBytesThenTheWholeInput", vars := ["example.com/quorumwatch/quorumwatch/internal/cib.newline"], fn := fun _ => fun
  | [d1, d2, d3, d4, d5, d6, g1] => { results := [.lit (.bool false)], args := [d1, d2, d3, d4, d5, d6], vars := [g1] }
  | _ => none }
def FnScannerFillUntilDoneDeliversKeptBytesThenTheWholeInputWrongFalsely : Prop := fnScannerFillUntilDoneDeliversKeptBytesThenTheWholeInputRow.holds Tryd.pinned (OpenSpec.ofChange fnScannerFillUntilDoneDeliversKeptBytesThenTheWholeInputWrong)

end Rows
end Go.Proofs.Qxb6614898aDoor
