/-
  No cell of these rows narrows 'for every input' (looked for: loops, veiled, ifaces, maps, wideKeys, modest, calm, conditions, laid).
  DERIVED. THE GIVEN ROWS OF THIS SEAT. 1 by the template 'for every input the law returns true; each argument reads behind the call as it read before'; 0 by the template 'total and deterministic' (their statements: Qxb6608654aTotals.lean).
  GIVEN WITH THE SEED: the statements are not yours to turn. If you find one false, say at which input.
  Laid BY PROGRAM, IN A SANDBOX (cutbox-rows.mjs): the forced cells as the released guide's own fill.sh prints them over the translation 4f438ea6b477f1b2… (all of the seat's roots in one cut). By AI agents, Wed Nov 11 2026. No macro, syntax, notation, axiom, sorry.
-/
import Derived.Test.Qxb6608654aChecked
import GoSem.Claim
import GoSem.ClaimJoined
import GoSem.ClaimMapViews
import Derived.JoinedTies
import Derived.KernelRfl
namespace Go.Proofs.Qxb6608654a
/- THE CELL 'sum', in the pinned program and in every row, IS THE sha256 OF THE DUMP (.gsa) THAT Qxb6608654aProg.lean LOADS. Nothing in Lean hashes anything: it is a label: what it is worth is what the hold of that sum in a sandbox is worth. -/
noncomputable def Try.pinned : Pinned := { name := "qxb6608654a", sum := "4f438ea6b477f1b2cd44f02c4050594d105da76f1632a26de2095d8ecc0bc5b6", checked := Try.checked }
namespace Rows
def none {H : Type} : Left H := { results := [], args := [] }

/-- 'zzlaws_root_b1.FnGrantSplitsAtAnyCut': WHATEVER THE INPUT: true; the input reads as it did. -/
def fnGrantSplitsAtAnyCutSpec : ChangeSpec := { name := "fnGrantSplitsAtAnyCut", fn := fun _ => fun
  | [d1, d2, d3, d4] => { results := [.lit (.bool true)], args := [d1, d2, d3, d4] }
  | _ => none }
def fnGrantSplitsAtAnyCutRow : OpenClaim := { program := "qxb6608654a", sum := "4f438ea6b477f1b2cd44f02c4050594d105da76f1632a26de2095d8ecc0bc5b6", func := "example.com/asterline/asterline/zzlaws_root_b1.FnGrantSplitsAtAnyCut", spec := "fnGrantSplitsAtAnyCut", apart := false }
def FnGrantSplitsAtAnyCutSaid : Prop := fnGrantSplitsAtAnyCutRow.holds Try.pinned (OpenSpec.ofChange fnGrantSplitsAtAnyCutSpec)

/-- ITS FALSE NEIGHBOUR: 'it returns false'. Refute it at one input. -/
def fnGrantSplitsAtAnyCutWrong : ChangeSpec := { name := "fnGrantSplitsAtAnyCut", fn := fun _ => fun
  | [d1, d2, d3, d4] => { results := [.lit (.bool false)], args := [d1, d2, d3, d4] }
  | _ => none }
def FnGrantSplitsAtAnyCutWrongFalsely : Prop := fnGrantSplitsAtAnyCutRow.holds Try.pinned (OpenSpec.ofChange fnGrantSplitsAtAnyCutWrong)

end Rows
end Go.Proofs.Qxb6608654a
