/-
  No cell of these rows narrows 'for every input' (looked for: loops, veiled, ifaces, maps, wideKeys, modest, calm, conditions, laid).
  DERIVED. THE GIVEN ROWS OF THIS SEAT. 4 by the template 'for every input the law returns true; each argument reads behind the call as it read before'; 0 by the template 'total and deterministic' (their statements: Qxb6614464aTotals.lean).
  GIVEN WITH THE SEED: the statements are not yours to turn. If you find one false, say at which input.
  Laid BY PROGRAM, IN A SANDBOX (cutbox-rows.mjs): the forced cells as the released guide's own fill.sh prints them over the translation 015967403c8b57a5… (all of the seat's roots in one cut). By AI agents, Wed Nov 11 2026. No macro, syntax, notation, axiom, sorry.
-/
import Derived.Test.Qxb6614464aChecked
import GoSem.Claim
import GoSem.ClaimJoined
import GoSem.ClaimMapViews
import Derived.JoinedTies
import Derived.KernelRfl
namespace Go.Proofs.Qxb6614464a
/- THE CELL 'sum', in the pinned program and in every row, IS THE sha256 OF THE DUMP (.gsa) THAT Qxb6614464aProg.lean LOADS. Nothing in Lean hashes anything: it is a label: what it is worth is what the hold of that sum in a sandbox is worth. -/
noncomputable def Try.pinned : Pinned := { name := "qxb6614464a", sum := "015967403c8b57a5549876380f8a69193c971df4f7f8ccde28abc35789d719cc", checked := Try.checked }
namespace Rows
def none {H : Type} : Left H := { results := [], args := [] }

/-- 'zzlaws_root_b1.FnLeadingSignOctetIsRedundantOctet': WHATEVER THE INPUT: true; the input reads as it did. -/
def fnLeadingSignOctetIsRedundantOctetSpec : ChangeSpec := { name := "fnLeadingSignOctetIsRedundantOctet", fn := fun _ => fun
  | [d] => { results := [.lit (.bool true)], args := [d] }
  | _ => none }
def fnLeadingSignOctetIsRedundantOctetRow : OpenClaim := { program := "qxb6614464a", sum := "015967403c8b57a5549876380f8a69193c971df4f7f8ccde28abc35789d719cc", func := "example.com/voidlist/voidlist/zzlaws_root_b1.FnLeadingSignOctetIsRedundantOctet", spec := "fnLeadingSignOctetIsRedundantOctet", apart := false }
def FnLeadingSignOctetIsRedundantOctetSaid : Prop := fnLeadingSignOctetIsRedundantOctetRow.holds Try.pinned (OpenSpec.ofChange fnLeadingSignOctetIsRedundantOctetSpec)

/-- ITS FALSE NEIGHBOUR: 'it returns false'. Refute it at one input. -/
def fnLeadingSignOctetIsRedundantOctetWrong : ChangeSpec := { name := "fnLeadingSignOctetIsRedundantOctet", fn := fun _ => fun
  | [d] => { results := [.lit (.bool false)], args := [d] }
  | _ => none }
def FnLeadingSignOctetIsRedundantOctetWrongFalsely : Prop := fnLeadingSignOctetIsRedundantOctetRow.holds Try.pinned (OpenSpec.ofChange fnLeadingSignOctetIsRedundantOctetWrong)

/-- 'zzlaws_root_b1.FnLeadingSignOctetTrimsInt64ToMinimalWidth': WHATEVER THE INPUT: true; the input reads as it did. -/
def fnLeadingSignOctetTrimsInt64ToMinimalWidthSpec : ChangeSpec := { name := "fnLeadingSignOctetTrimsInt64ToMinimalWidth", fn := fun _ => fun
  | [d] => { results := [.lit (.bool true)], args := [d] }
  | _ => none }
def fnLeadingSignOctetTrimsInt64ToMinimalWidthRow : OpenClaim := { program := "qxb6614464a", sum := "015967403c8b57a5549876380f8a69193c971df4f7f8ccde28abc35789d719cc", func := "example.com/voidlist/voidlist/zzlaws_root_b1.FnLeadingSignOctetTrimsInt64ToMinimalWidth", spec := "fnLeadingSignOctetTrimsInt64ToMinimalWidth", apart := false }
def FnLeadingSignOctetTrimsInt64ToMinimalWidthSaid : Prop := fnLeadingSignOctetTrimsInt64ToMinimalWidthRow.holds Try.pinned (OpenSpec.ofChange fnLeadingSignOctetTrimsInt64ToMinimalWidthSpec)

/-- ITS FALSE NEIGHBOUR: 'it returns false'. Refute it at one input. -/
def fnLeadingSignOctetTrimsInt64ToMinimalWidthWrong : ChangeSpec := { name := "fnLeadingSignOctetTrimsInt64ToMinimalWidth", fn := fun _ => fun
  | [d] => { results := [.lit (.bool false)], args := [d] }
  | _ => none }
def FnLeadingSignOctetTrimsInt64ToMinimalWidthWrongFalsely : Prop := fnLeadingSignOctetTrimsInt64ToMinimalWidthRow.holds Try.pinned (OpenSpec.ofChange fnLeadingSignOctetTrimsInt64ToMinimalWidthWrong)

/-- 'zzlaws_root_b1.FnSameURIEqualsEqualityOfUpperFolds': WHATEVER THE INPUT: true; the input reads as it did. -/
def fnSameURIEqualsEqualityOfUpperFoldsSpec : ChangeSpec := { name := "fnSameURIEqualsEqualityOfUpperFolds", fn := fun _ => fun
  | [d1, d2] => { results := [.lit (.bool true)], args := [d1, d2] }
  | _ => none }
def fnSameURIEqualsEqualityOfUpperFoldsRow : OpenClaim := { program := "qxb6614464a", sum := "015967403c8b57a5549876380f8a69193c971df4f7f8ccde28abc35789d719cc", func := "example.com/voidlist/voidlist/zzlaws_root_b1.FnSameURIEqualsEqualityOfUpperFolds", spec := "fnSameURIEqualsEqualityOfUpperFolds", inPlace := ["internal/bytealg.IndexByteString", "internal/bytealg.IndexString"], named := ["internal/bytealg.MaxLen"], apart := false }
def FnSameURIEqualsEqualityOfUpperFoldsSaid : Prop := fnSameURIEqualsEqualityOfUpperFoldsRow.holds Try.pinned (OpenSpec.ofChange fnSameURIEqualsEqualityOfUpperFoldsSpec)

/-- ITS FALSE NEIGHBOUR: 'it returns false'. Refute it at one input. -/
def fnSameURIEqualsEqualityOfUpperFoldsWrong : ChangeSpec := { name := "fnSameURIEqualsEqualityOfUpperFolds", fn := fun _ => fun
  | [d1, d2] => { results := [.lit (.bool false)], args := [d1, d2] }
  | _ => none }
def FnSameURIEqualsEqualityOfUpperFoldsWrongFalsely : Prop := fnSameURIEqualsEqualityOfUpperFoldsRow.holds Try.pinned (OpenSpec.ofChange fnSameURIEqualsEqualityOfUpperFoldsWrong)

/-- 'zzlaws_root_b1.FnSameURICaseMattersOutsideSchemeAndHostAlone': WHATEVER THE INPUT: true; the input reads as it did. -/
def fnSameURICaseMattersOutsideSchemeAndHostAloneSpec : ChangeSpec := { name := "fnSameURICaseMattersOutsideSchemeAndHostAlone", fn := fun _ => fun
  | [d1, d2] => { results := [.lit (.bool true)], args := [d1, d2] }
  | _ => none }
def fnSameURICaseMattersOutsideSchemeAndHostAloneRow : OpenClaim := { program := "qxb6614464a", sum := "015967403c8b57a5549876380f8a69193c971df4f7f8ccde28abc35789d719cc", func := "example.com/voidlist/voidlist/zzlaws_root_b1.FnSameURICaseMattersOutsideSchemeAndHostAlone", spec := "fnSameURICaseMattersOutsideSchemeAndHostAlone", inPlace := ["internal/bytealg.IndexByteString", "internal/bytealg.IndexString"], named := ["internal/bytealg.MaxLen"], apart := false }
def FnSameURICaseMattersOutsideSchemeAndHostAloneSaid : Prop := fnSameURICaseMattersOutsideSchemeAndHostAloneRow.holds Try.pinned (OpenSpec.ofChange fnSameURICaseMattersOutsideSchemeAndHostAloneSpec)

/-- ITS FALSE NEIGHBOUR: 'it returns false'. Refute it at one input. -/
def fnSameURICaseMattersOutsideSchemeAndHostAloneWrong : ChangeSpec := { name := "fnSameURICaseMattersOutsideSchemeAndHostAlone", fn := fun _ => fun
  | [d1, d2] => { results := [.lit (.bool false)], args := [d1, d2] }
  | _ => none }
def FnSameURICaseMattersOutsideSchemeAndHostAloneWrongFalsely : Prop := fnSameURICaseMattersOutsideSchemeAndHostAloneRow.holds Try.pinned (OpenSpec.ofChange fnSameURICaseMattersOutsideSchemeAndHostAloneWrong)

end Rows
end Go.Proofs.Qxb6614464a
