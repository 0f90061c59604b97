/-
  No cell of these rows narrows 'for every input' (looked for: loops, veiled, ifaces, maps, wideKeys, modest, calm, conditions, laid).
  DERIVED. THE GIVEN ROWS OF THIS SEAT. 2 by the template 'for every input the law returns true; each argument reads behind the call as it read before'; 0 by the template 'total and deterministic' (their statements: Qxb6629022aTotals.lean).
  GIVEN WITH THE SEED: the statements are not yours to turn. If you find one false, say at which input.
  Laid BY PROGRAM, IN A SANDBOX (cutbox-rows.mjs): the forced cells as the released guide's own fill.sh prints them over the translation f2095e51ca2e4ec7… (all of the seat's roots in one cut). By AI agents, Wed Nov 11 2026. No macro, syntax, notation, axiom, sorry.
-/
import Derived.Test.Qxb6629022aChecked
import GoSem.Claim
import GoSem.ClaimJoined
import GoSem.ClaimMapViews
import Derived.JoinedTies
import Derived.KernelRfl
namespace Go.Proofs.Qxb6629022a
/- THE CELL 'sum', in the pinned program and in every row, IS THE sha256 OF THE DUMP (.gsa) THAT Qxb6629022aProg.lean LOADS. Nothing in Lean hashes anything: it is a label: what it is worth is what the hold of that sum in a sandbox is worth. -/
noncomputable def Try.pinned : Pinned := { name := "qxb6629022a", sum := "f2095e51ca2e4ec79ea6336ca884da5e6a835a3e9acce522f5b1ce08bbfd8aef", checked := Try.checked }
namespace Rows
def none {H : Type} : Left H := { results := [], args := [] }

/-- 'zzlaws_internal_fund_b1.FnNamesSplitJoinsAndListsEachName': WHATEVER THE INPUT: true; the input reads as it did. -/
def fnNamesSplitJoinsAndListsEachNameSpec : ChangeSpec := { name := "fnNamesSplitJoinsAndListsEachName", fn := fun _ => fun
  | [d1, d2] => { results := [.lit (.bool true)], args := [d1, d2] }
  | _ => none }
def fnNamesSplitJoinsAndListsEachNameRow : OpenClaim := { program := "qxb6629022a", sum := "f2095e51ca2e4ec79ea6336ca884da5e6a835a3e9acce522f5b1ce08bbfd8aef", func := "example.com/tuoguan/tuoguan/zzlaws_internal_fund_b1.FnNamesSplitJoinsAndListsEachName", spec := "fnNamesSplitJoinsAndListsEachName", apart := false }
def FnNamesSplitJoinsAndListsEachNameSaid : Prop := fnNamesSplitJoinsAndListsEachNameRow.holds Try.pinned (OpenSpec.ofChange fnNamesSplitJoinsAndListsEachNameSpec)

/-- ITS FALSE NEIGHBOUR: 'it returns false'. Refute it at one input. -/
def fnNamesSplitJoinsAndListsEachNameWrong : ChangeSpec := { name := "fnNamesSplitJoinsAndListsEachName", fn := fun _ => fun
  | [d1, d2] => { results := [.lit (.bool false)], args := [d1, d2] }
  | _ => none }
def FnNamesSplitJoinsAndListsEachNameWrongFalsely : Prop := fnNamesSplitJoinsAndListsEachNameRow.holds Try.pinned (OpenSpec.ofChange fnNamesSplitJoinsAndListsEachNameWrong)

/-- 'zzlaws_internal_fund_b1.FnNamesInsertOneClassAnywhere': WHATEVER THE INPUT: true; the input reads as it did. -/
def fnNamesInsertOneClassAnywhereSpec : ChangeSpec := { name := "fnNamesInsertOneClassAnywhere", fn := fun _ => fun
  | [d1, d2, d3] => { results := [.lit (.bool true)], args := [d1, d2, d3] }
  | _ => none }
def fnNamesInsertOneClassAnywhereRow : OpenClaim := { program := "qxb6629022a", sum := "f2095e51ca2e4ec79ea6336ca884da5e6a835a3e9acce522f5b1ce08bbfd8aef", func := "example.com/tuoguan/tuoguan/zzlaws_internal_fund_b1.FnNamesInsertOneClassAnywhere", spec := "fnNamesInsertOneClassAnywhere", apart := false }
def FnNamesInsertOneClassAnywhereSaid : Prop := fnNamesInsertOneClassAnywhereRow.holds Try.pinned (OpenSpec.ofChange fnNamesInsertOneClassAnywhereSpec)

/-- ITS FALSE NEIGHBOUR: 'it returns false'. Refute it at one input. -/
def fnNamesInsertOneClassAnywhereWrong : ChangeSpec := { name := "fnNamesInsertOneClassAnywhere", fn := fun _ => fun
  | [d1, d2, d3] => { results := [.lit (.bool false)], args := [d1, d2, d3] }
  | _ => none }
def FnNamesInsertOneClassAnywhereWrongFalsely : Prop := fnNamesInsertOneClassAnywhereRow.holds Try.pinned (OpenSpec.ofChange fnNamesInsertOneClassAnywhereWrong)

end Rows
end Go.Proofs.Qxb6629022a
