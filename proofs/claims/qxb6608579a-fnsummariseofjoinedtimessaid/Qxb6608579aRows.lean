/-
  No cell of these rows narrows 'for every input' (looked for: loops, veiled, ifaces, maps, wideKeys, modest, calm, conditions, laid).
  DERIVED. THE GIVEN ROWS OF THIS SEAT. 2 by the template 'for every input the law returns true; each argument reads behind the call as it read before'; 0 by the template 'total and deterministic' (their statements: Qxb6608579aTotals.lean).
  GIVEN WITH THE SEED: the statements are not yours to turn. If you find one false, say at which input.
  Laid BY PROGRAM, IN A SANDBOX (cutbox-rows.mjs): the forced cells as the released guide's own fill.sh prints them over the translation 4a37b7ad29770a53… (all of the seat's roots in one cut). By AI agents, Wed Nov 11 2026. No macro, syntax, notation, axiom, sorry.
-/
import Derived.Test.Qxb6608579aChecked
import GoSem.Claim
import GoSem.ClaimJoined
import GoSem.ClaimMapViews
import Derived.JoinedTies
import Derived.KernelRfl
namespace Go.Proofs.Qxb6608579a
/- THE CELL 'sum', in the pinned program and in every row, IS THE sha256 OF THE DUMP (.gsa) THAT Qxb6608579aProg.lean LOADS. Nothing in Lean hashes anything: it is a label: what it is worth is what the hold of that sum in a sandbox is worth. -/
noncomputable def Try.pinned : Pinned := { name := "qxb6608579a", sum := "4a37b7ad29770a538b5da6f08b0b7a0291505e3a1c36bd07e05c726fe46ffb8e", checked := Try.checked }
namespace Rows
def none {H : Type} : Left H := { results := [], args := [] }

/-- 'zzlaws_cmd_b1.FnSummariseWholeAnswer': WHATEVER THE INPUT: true; the input reads as it did. -/
def fnSummariseWholeAnswerSpec : ChangeSpec := { name := "fnSummariseWholeAnswer", fn := fun _ => fun
  | [d] => { results := [.lit (.bool true)], args := [d] }
  | _ => none }
def fnSummariseWholeAnswerRow : OpenClaim := { program := "qxb6608579a", sum := "4a37b7ad29770a538b5da6f08b0b7a0291505e3a1c36bd07e05c726fe46ffb8e", func := "example.com/tranca/tranca/zzlaws_cmd_b1.FnSummariseWholeAnswer", spec := "fnSummariseWholeAnswer", inPlace := ["math.sqrt"], unfollowed := true, recurses := true, apart := false }
def FnSummariseWholeAnswerSaid : Prop := fnSummariseWholeAnswerRow.holds Try.pinned (OpenSpec.ofChange fnSummariseWholeAnswerSpec)

/-- ITS FALSE NEIGHBOUR: 'it returns false'. Refute it at one input. -/
def fnSummariseWholeAnswerWrong : ChangeSpec := { name := "fnSummariseWholeAnswer", fn := fun _ => fun
  | [d] => { results := [.lit (.bool false)], args := [d] }
  | _ => none }
def FnSummariseWholeAnswerWrongFalsely : Prop := fnSummariseWholeAnswerRow.holds Try.pinned (OpenSpec.ofChange fnSummariseWholeAnswerWrong)

/-- 'zzlaws_cmd_b1.FnSummariseOfJoinedTimes': WHATEVER THE INPUT: true; the input reads as it did. -/
def fnSummariseOfJoinedTimesSpec : ChangeSpec := { name := "fnSummariseOfJoinedTimes", fn := fun _ => fun
  | [d1, d2] => { results := [.lit (.bool true)], args := [d1, d2] }
  | _ => none }
def fnSummariseOfJoinedTimesRow : OpenClaim := { program := "qxb6608579a", sum := "4a37b7ad29770a538b5da6f08b0b7a0291505e3a1c36bd07e05c726fe46ffb8e", func := "example.com/tranca/tranca/zzlaws_cmd_b1.FnSummariseOfJoinedTimes", spec := "fnSummariseOfJoinedTimes", inPlace := ["math.sqrt"], unfollowed := true, recurses := true, apart := false }
def FnSummariseOfJoinedTimesSaid : Prop := fnSummariseOfJoinedTimesRow.holds Try.pinned (OpenSpec.ofChange fnSummariseOfJoinedTimesSpec)

/-- ITS FALSE NEIGHBOUR: 'it returns false'. Refute it at one input. -/
def fnSummariseOfJoinedTimesWrong : ChangeSpec := { name := "fnSummariseOfJoinedTimes", fn := fun _ => fun
  | [d1, d2] => { results := [.lit (.bool false)], args := [d1, d2] }
  | _ => none }
def FnSummariseOfJoinedTimesWrongFalsely : Prop := fnSummariseOfJoinedTimesRow.holds Try.pinned (OpenSpec.ofChange fnSummariseOfJoinedTimesWrong)

end Rows
end Go.Proofs.Qxb6608579a
