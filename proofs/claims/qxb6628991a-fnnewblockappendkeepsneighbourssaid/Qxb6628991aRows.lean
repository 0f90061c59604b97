/-
  No cell of these rows narrows 'for every input' (looked for: loops, veiled, ifaces, maps, wideKeys, modest, calm, conditions, laid).
  DERIVED. THE GIVEN ROWS OF THIS SEAT. 2 by the template 'for every input the law returns true; each argument reads behind the call as it read before'; 0 by the template 'total and deterministic' (their statements: Qxb6628991aTotals.lean).
  GIVEN WITH THE SEED: the statements are not yours to turn. If you find one false, say at which input.
  Laid BY PROGRAM, IN A SANDBOX (cutbox-rows.mjs): the forced cells as the released guide's own fill.sh prints them over the translation 21f7ee1c25d6c3f2… (all of the seat's roots in one cut). By AI agents, Wed Nov 11 2026. No macro, syntax, notation, axiom, sorry.
-/
import Derived.Test.Qxb6628991aChecked
import GoSem.Claim
import GoSem.ClaimJoined
import GoSem.ClaimMapViews
import Derived.JoinedTies
import Derived.KernelRfl
namespace Go.Proofs.Qxb6628991a
/- THE CELL 'sum', in the pinned program and in every row, IS THE sha256 OF THE DUMP (.gsa) THAT Qxb6628991aProg.lean LOADS. Nothing in Lean hashes anything: it is a label: what it is worth is what the hold of that sum in a sandbox is worth. -/
noncomputable def Try.pinned : Pinned := { name := "qxb6628991a", sum := "21f7ee1c25d6c3f23b20247e28eefdbf784af2929510cbac457853734ee3e55b", checked := Try.checked }
namespace Rows
def none {H : Type} : Left H := { results := [], args := [] }

/-- 'zzlaws_sample_b1.FnNewBlockShapeAndDisjointRows': WHATEVER THE INPUT: true; the input reads as it did. -/
def fnNewBlockShapeAndDisjointRowsSpec : ChangeSpec := { name := "fnNewBlockShapeAndDisjointRows", fn := fun _ => fun
  | [d1, d2] => { results := [.lit (.bool true)], args := [d1, d2] }
  | _ => none }
def fnNewBlockShapeAndDisjointRowsRow : OpenClaim := { program := "qxb6628991a", sum := "21f7ee1c25d6c3f23b20247e28eefdbf784af2929510cbac457853734ee3e55b", func := "example.com/keen-trigger/keen-trigger/zzlaws_sample_b1.FnNewBlockShapeAndDisjointRows", spec := "fnNewBlockShapeAndDisjointRows", apart := false }
def FnNewBlockShapeAndDisjointRowsSaid : Prop := fnNewBlockShapeAndDisjointRowsRow.holds Try.pinned (OpenSpec.ofChange fnNewBlockShapeAndDisjointRowsSpec)

/-- ITS FALSE NEIGHBOUR: 'it returns false'. Refute it at one input. -/
def fnNewBlockShapeAndDisjointRowsWrong : ChangeSpec := { name := "fnNewBlockShapeAndDisjointRows", fn := fun _ => fun
  | [d1, d2] => { results := [.lit (.bool false)], args := [d1, d2] }
  | _ => none }
def FnNewBlockShapeAndDisjointRowsWrongFalsely : Prop := fnNewBlockShapeAndDisjointRowsRow.holds Try.pinned (OpenSpec.ofChange fnNewBlockShapeAndDisjointRowsWrong)

/-- 'zzlaws_sample_b1.FnNewBlockAppendKeepsNeighbours': WHATEVER THE INPUT: true; the input reads as it did. -/
def fnNewBlockAppendKeepsNeighboursSpec : ChangeSpec := { name := "fnNewBlockAppendKeepsNeighbours", fn := fun _ => fun
  | [d1, d2, d3, d4] => { results := [.lit (.bool true)], args := [d1, d2, d3, d4] }
  | _ => none }
def fnNewBlockAppendKeepsNeighboursRow : OpenClaim := { program := "qxb6628991a", sum := "21f7ee1c25d6c3f23b20247e28eefdbf784af2929510cbac457853734ee3e55b", func := "example.com/keen-trigger/keen-trigger/zzlaws_sample_b1.FnNewBlockAppendKeepsNeighbours", spec := "fnNewBlockAppendKeepsNeighbours", apart := false }
def FnNewBlockAppendKeepsNeighboursSaid : Prop := fnNewBlockAppendKeepsNeighboursRow.holds Try.pinned (OpenSpec.ofChange fnNewBlockAppendKeepsNeighboursSpec)

/-- ITS FALSE NEIGHBOUR: 'it returns false'. Refute it at one input. -/
def fnNewBlockAppendKeepsNeighboursWrong : ChangeSpec := { name := "fnNewBlockAppendKeepsNeighbours", fn := fun _ => fun
  | [d1, d2, d3, d4] => { results := [.lit (.bool false)], args := [d1, d2, d3, d4] }
  | _ => none }
def FnNewBlockAppendKeepsNeighboursWrongFalsely : Prop := fnNewBlockAppendKeepsNeighboursRow.holds Try.pinned (OpenSpec.ofChange fnNewBlockAppendKeepsNeighboursWrong)

end Rows
end Go.Proofs.Qxb6628991a
