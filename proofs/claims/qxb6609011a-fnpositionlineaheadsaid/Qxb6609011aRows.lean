/-
  No cell of these rows narrows 'for every input' (looked for: loops, veiled, ifaces, maps, wideKeys, modest, calm, conditions, laid).
  DERIVED. THE GIVEN ROWS OF THIS SEAT. 2 by the template 'for every input the law returns true; each argument reads behind the call as it read before'; 0 by the template 'total and deterministic' (their statements: Qxb6609011aTotals.lean).
  GIVEN WITH THE SEED: the statements are not yours to turn. If you find one false, say at which input.
  Laid BY PROGRAM, IN A SANDBOX (cutbox-rows.mjs): the forced cells as the released guide's own fill.sh prints them over the translation 7ce8606b60e33695… (all of the seat's roots in one cut). By AI agents, Wed Nov 11 2026. No macro, syntax, notation, axiom, sorry.
-/
import Derived.Test.Qxb6609011aChecked
import GoSem.Claim
import GoSem.ClaimJoined
import GoSem.ClaimMapViews
import Derived.JoinedTies
import Derived.KernelRfl
namespace Go.Proofs.Qxb6609011a
/- THE CELL 'sum', in the pinned program and in every row, IS THE sha256 OF THE DUMP (.gsa) THAT Qxb6609011aProg.lean LOADS. Nothing in Lean hashes anything: it is a label: what it is worth is what the hold of that sum in a sandbox is worth. -/
noncomputable def Try.pinned : Pinned := { name := "qxb6609011a", sum := "7ce8606b60e336958216a9db4e8dbd1f504889a4ef6c3d599fc9676d33407604", checked := Try.checked }
namespace Rows
def none {H : Type} : Left H := { results := [], args := [] }

/-- 'zzlaws_internal_config_b1.FnPositionCutAgrees': WHATEVER THE INPUT: true; the input reads as it did. -/
def fnPositionCutAgreesSpec : ChangeSpec := { name := "fnPositionCutAgrees", fn := fun _ => fun
  | [d1, d2, d3] => { results := [.lit (.bool true)], args := [d1, d2, d3] }
  | _ => none }
def fnPositionCutAgreesRow : OpenClaim := { program := "qxb6609011a", sum := "7ce8606b60e336958216a9db4e8dbd1f504889a4ef6c3d599fc9676d33407604", func := "example.com/meshwright/meshwright/zzlaws_internal_config_b1.FnPositionCutAgrees", spec := "fnPositionCutAgrees", inPlace := ["internal/bytealg.Count", "internal/bytealg.IndexByte", "internal/bytealg.Index"], named := ["internal/bytealg.MaxLen"], apart := false }
def FnPositionCutAgreesSaid : Prop := fnPositionCutAgreesRow.holds Try.pinned (OpenSpec.ofChange fnPositionCutAgreesSpec)

/-- ITS FALSE NEIGHBOUR: 'it returns false'. Refute it at one input. -/
def fnPositionCutAgreesWrong : ChangeSpec := { name := "fnPositionCutAgrees", fn := fun _ => fun
  | [d1, d2, d3] => { results := [.lit (.bool false)], args := [d1, d2, d3] }
  | _ => none }
def FnPositionCutAgreesWrongFalsely : Prop := fnPositionCutAgreesRow.holds Try.pinned (OpenSpec.ofChange fnPositionCutAgreesWrong)

/-- 'zzlaws_internal_config_b1.FnPositionLineAhead': WHATEVER THE INPUT: true; the input reads as it did. -/
def fnPositionLineAheadSpec : ChangeSpec := { name := "fnPositionLineAhead", fn := fun _ => fun
  | [d1, d2, d3, d4] => { results := [.lit (.bool true)], args := [d1, d2, d3, d4] }
  | _ => none }
def fnPositionLineAheadRow : OpenClaim := { program := "qxb6609011a", sum := "7ce8606b60e336958216a9db4e8dbd1f504889a4ef6c3d599fc9676d33407604", func := "example.com/meshwright/meshwright/zzlaws_internal_config_b1.FnPositionLineAhead", spec := "fnPositionLineAhead", inPlace := ["internal/bytealg.Count", "internal/bytealg.IndexByte", "internal/bytealg.Index"], named := ["internal/bytealg.MaxLen"], apart := false }
def FnPositionLineAheadSaid : Prop := fnPositionLineAheadRow.holds Try.pinned (OpenSpec.ofChange fnPositionLineAheadSpec)

/-- ITS FALSE NEIGHBOUR: 'it returns false'. Refute it at one input. -/
def fnPositionLineAheadWrong : ChangeSpec := { name := "fnPositionLineAhead", fn := fun _ => fun
  | [d1, d2, d3, d4] => { results := [.lit (.bool false)], args := [d1, d2, d3, d4] }
  | _ => none }
def FnPositionLineAheadWrongFalsely : Prop := fnPositionLineAheadRow.holds Try.pinned (OpenSpec.ofChange fnPositionLineAheadWrong)

end Rows
end Go.Proofs.Qxb6609011a
