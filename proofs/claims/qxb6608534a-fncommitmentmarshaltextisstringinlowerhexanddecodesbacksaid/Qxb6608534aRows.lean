/-
  No cell of these rows narrows 'for every input' (looked for: loops, veiled, ifaces, maps, wideKeys, modest, calm, conditions, laid).
  DERIVED. THE GIVEN ROWS OF THIS SEAT. 2 by the template 'for every input the law returns true; each argument reads behind the call as it read before'; 0 by the template 'total and deterministic' (their statements: Qxb6608534aTotals.lean).
  GIVEN WITH THE SEED: the statements are not yours to turn. If you find one false, say at which input.
  Laid BY PROGRAM, IN A SANDBOX (cutbox-rows.mjs): the forced cells as the released guide's own fill.sh prints them over the translation 12221dcc2d6e537f… (all of the seat's roots in one cut). By AI agents, Wed Nov 11 2026. No macro, syntax, notation, axiom, sorry.
-/
import Derived.Test.Qxb6608534aChecked
import GoSem.Claim
import GoSem.ClaimJoined
import GoSem.ClaimMapViews
import Derived.JoinedTies
import Derived.KernelRfl
namespace Go.Proofs.Qxb6608534a
/- THE CELL 'sum', in the pinned program and in every row, IS THE sha256 OF THE DUMP (.gsa) THAT Qxb6608534aProg.lean LOADS. Nothing in Lean hashes anything: it is a label: what it is worth is what the hold of that sum in a sandbox is worth. -/
noncomputable def Try.pinned : Pinned := { name := "qxb6608534a", sum := "12221dcc2d6e537f87c8da44c6de2f25a2523e106d947366c51b63f18049c854", checked := Try.checked }
namespace Rows
def none {H : Type} : Left H := { results := [], args := [] }

/-- 'zzlaws_internal_market_b1.FnCommitmentMarshalTextIsStringInLowerHexAndDecodesBack': WHATEVER THE INPUT: true; the input reads as it did. -/
def fnCommitmentMarshalTextIsStringInLowerHexAndDecodesBackSpec : ChangeSpec := { name := "fnCommitmentMarshalTextIsStringInLowerHexAndDecodesBack", fn := fun _ => fun
  | [d] => { results := [.lit (.bool true)], args := [d] }
  | _ => none }
def fnCommitmentMarshalTextIsStringInLowerHexAndDecodesBackRow : OpenClaim := { program := "qxb6608534a", sum := "12221dcc2d6e537f87c8da44c6de2f25a2523e106d947366c51b63f18049c854", func := "example.com/gridbarter/gridbarter/zzlaws_internal_market_b1.FnCommitmentMarshalTextIsStringInLowerHexAndDecodesBack", spec := "fnCommitmentMarshalTextIsStringInLowerHexAndDecodesBack", apart := false }
def FnCommitmentMarshalTextIsStringInLowerHexAndDecodesBackSaid : Prop := fnCommitmentMarshalTextIsStringInLowerHexAndDecodesBackRow.holds Try.pinned (OpenSpec.ofChange fnCommitmentMarshalTextIsStringInLowerHexAndDecodesBackSpec)

/-- ITS FALSE NEIGHBOUR: 'it returns false'. Refute it at one input. -/
def fnCommitmentMarshalTextIsStringInLowerHexAndDecodesBackWrong : ChangeSpec := { name := "fnCommitmentMarshalTextIsStringInLowerHexAndDecodesBack", fn := fun _ => fun
  | [d] => { results := [.lit (.bool false)], args := [d] }
  | _ => none }
def FnCommitmentMarshalTextIsStringInLowerHexAndDecodesBackWrongFalsely : Prop := fnCommitmentMarshalTextIsStringInLowerHexAndDecodesBackRow.holds Try.pinned (OpenSpec.ofChange fnCommitmentMarshalTextIsStringInLowerHexAndDecodesBackWrong)

/-- 'zzlaws_internal_market_b1.FnCommitmentTextsSortAsTheirBytes': WHATEVER THE INPUT: true; the input reads as it did. -/
def fnCommitmentTextsSortAsTheirBytesSpec : ChangeSpec := { name := "fnCommitmentTextsSortAsTheirBytes", fn := fun _ => fun
  | [d1, d2] => { results := [.lit (.bool true)], args := [d1, d2] }
  | _ => none }
def fnCommitmentTextsSortAsTheirBytesRow : OpenClaim := { program := "qxb6608534a", sum := "12221dcc2d6e537f87c8da44c6de2f25a2523e106d947366c51b63f18049c854", func := "example.com/gridbarter/gridbarter/zzlaws_internal_market_b1.FnCommitmentTextsSortAsTheirBytes", spec := "fnCommitmentTextsSortAsTheirBytes", apart := false }
def FnCommitmentTextsSortAsTheirBytesSaid : Prop := fnCommitmentTextsSortAsTheirBytesRow.holds Try.pinned (OpenSpec.ofChange fnCommitmentTextsSortAsTheirBytesSpec)

/-- ITS FALSE NEIGHBOUR: 'it returns false'. Refute it at one input. -/
def fnCommitmentTextsSortAsTheirBytesWrong : ChangeSpec := { name := "fnCommitmentTextsSortAsTheirBytes", fn := fun _ => fun
  | [d1, d2] => { results := [.lit (.bool false)], args := [d1, d2] }
  | _ => none }
def FnCommitmentTextsSortAsTheirBytesWrongFalsely : Prop := fnCommitmentTextsSortAsTheirBytesRow.holds Try.pinned (OpenSpec.ofChange fnCommitmentTextsSortAsTheirBytesWrong)

end Rows
end Go.Proofs.Qxb6608534a
