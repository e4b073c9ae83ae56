/-
  No cell of these rows narrows 'for every input' (looked for: loops, veiled, ifaces, maps, wideKeys, modest, calm, conditions, laid).
  DERIVED. THE GIVEN ROWS OF THIS SEAT. 2 by the template 'for every input the law returns true; each argument reads behind the call as it read before'; 0 by the template 'total and deterministic' (their statements: Qxb6000099aTotals.lean).
  GIVEN WITH THE SEED: the statements are not yours to turn. If you find one false, say at which input.
  Laid BY PROGRAM, IN A SANDBOX (cutbox-rows.mjs): the forced cells as the released guide's own fill.sh prints them over the translation 4dc4aa1655e412ca… (all of the seat's roots in one cut). By AI agents, Wed Nov 11 2026. No macro, syntax, notation, axiom, sorry.
-/
import Derived.Test.Qxb6000099aChecked
import GoSem.Claim
import GoSem.ClaimJoined
import GoSem.ClaimMapViews
import Derived.JoinedTies
import Derived.KernelRfl
namespace Go.Proofs.Qxb6000099a
/- THE CELL 'sum', in the pinned program and in every row, IS THE sha256 OF THE DUMP (.gsa) THAT Qxb6000099aProg.lean LOADS. Nothing in Lean hashes anything: it is a label: what it is worth is what the hold of that sum in a sandbox is worth. -/
noncomputable def Try.pinned : Pinned := { name := "qxb6000099a", sum := "4dc4aa1655e412ca2bf112f183f854d21ca22ad33f4142e4227119e47c9c517d", checked := Try.checked }
namespace Rows
def none {H : Type} : Left H := { results := [], args := [] }

/-- 'zzlaws_plan_b1.FnSkipBlankMatchesCommentStateMachine': WHATEVER THE INPUT: true; the input reads as it did. -/
def fnSkipBlankMatchesCommentStateMachineSpec : ChangeSpec := { name := "fnSkipBlankMatchesCommentStateMachine", fn := fun _ => fun
  | [d1, d2] => { results := [.lit (.bool true)], args := [d1, d2] }
  | _ => none }
def fnSkipBlankMatchesCommentStateMachineRow : OpenClaim := { program := "qxb6000099a", sum := "4dc4aa1655e412ca2bf112f183f854d21ca22ad33f4142e4227119e47c9c517d", func := "example.com/vestwright/vestwright/zzlaws_plan_b1.FnSkipBlankMatchesCommentStateMachine", spec := "fnSkipBlankMatchesCommentStateMachine", inPlace := ["internal/bytealg.IndexByteString"], apart := false }
def FnSkipBlankMatchesCommentStateMachineSaid : Prop := fnSkipBlankMatchesCommentStateMachineRow.holds Try.pinned (OpenSpec.ofChange fnSkipBlankMatchesCommentStateMachineSpec)

/-- ITS FALSE NEIGHBOUR: 'it returns false'. Refute it at one input. -/
def fnSkipBlankMatchesCommentStateMachineWrong : ChangeSpec := { name := "fnSkipBlankMatchesCommentStateMachine", fn := fun _ => fun
  | [d1, d2] => { results := [.lit (.bool false)], args := [d1, d2] }
  | _ => none }
def FnSkipBlankMatchesCommentStateMachineWrongFalsely : Prop := fnSkipBlankMatchesCommentStateMachineRow.holds Try.pinned (OpenSpec.ofChange fnSkipBlankMatchesCommentStateMachineWrong)

/-- 'zzlaws_plan_b1.FnSkipBlankIsIdempotent': WHATEVER THE INPUT: true; the input reads as it did. -/
def fnSkipBlankIsIdempotentSpec : ChangeSpec := { name := "fnSkipBlankIsIdempotent", fn := fun _ => fun
  | [d1, d2] => { results := [.lit (.bool true)], args := [d1, d2] }
  | _ => none }
def fnSkipBlankIsIdempotentRow : OpenClaim := { program := "qxb6000099a", sum := "4dc4aa1655e412ca2bf112f183f854d21ca22ad33f4142e4227119e47c9c517d", func := "example.com/vestwright/vestwright/zzlaws_plan_b1.FnSkipBlankIsIdempotent", spec := "fnSkipBlankIsIdempotent", inPlace := ["internal/bytealg.IndexByteString"], apart := false }
def FnSkipBlankIsIdempotentSaid : Prop := fnSkipBlankIsIdempotentRow.holds Try.pinned (OpenSpec.ofChange fnSkipBlankIsIdempotentSpec)

/-- ITS FALSE NEIGHBOUR: 'it returns false'. Refute it at one input. -/
def fnSkipBlankIsIdempotentWrong : ChangeSpec := { name := "fnSkipBlankIsIdempotent", fn := fun _ => fun
  | [d1, d2] => { results := [.lit (.bool false)], args := [d1, d2] }
  | _ => none }
def FnSkipBlankIsIdempotentWrongFalsely : Prop := fnSkipBlankIsIdempotentRow.holds Try.pinned (OpenSpec.ofChange fnSkipBlankIsIdempotentWrong)

end Rows
end Go.Proofs.Qxb6000099a
