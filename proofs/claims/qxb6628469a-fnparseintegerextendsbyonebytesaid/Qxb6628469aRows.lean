/-
  No cell of these rows narrows 'for every input' (looked for: loops, veiled, ifaces, maps, wideKeys, modest, calm, conditions, laid).
  DERIVED. THE GIVEN ROWS OF THIS SEAT. 2 by the template 'for every input the law returns true; each argument reads behind the call as it read before'; 0 by the template 'total and deterministic' (their statements: Qxb6628469aTotals.lean).
  GIVEN WITH THE SEED: the statements are not yours to turn. If you find one false, say at which input.
  Laid BY PROGRAM, IN A SANDBOX (cutbox-rows.mjs): the forced cells as the released guide's own fill.sh prints them over the translation 906818af3c5bc2ef… (all of the seat's roots in one cut). By AI agents, Wed Nov 11 2026. No macro, syntax, notation, axiom, sorry.
-/
import Derived.Test.Qxb6628469aChecked
import GoSem.Claim
import GoSem.ClaimJoined
import GoSem.ClaimMapViews
import Derived.JoinedTies
import Derived.KernelRfl
namespace Go.Proofs.Qxb6628469a
/- THE CELL 'sum', in the pinned program and in every row, IS THE sha256 OF THE DUMP (.gsa) THAT Qxb6628469aProg.lean LOADS. Nothing in Lean hashes anything: it is a label: what it is worth is what the hold of that sum in a sandbox is worth. -/
noncomputable def Try.pinned : Pinned := { name := "qxb6628469a", sum := "906818af3c5bc2ef199bdb7296f006ae9f989714a449ef94a8a6cc0bb846e6db", checked := Try.checked }
namespace Rows
def none {H : Type} : Left H := { results := [], args := [] }

/-- 'zzlaws_internal_resp_b1.FnParseIntegerMatchesCanonicalModel': WHATEVER THE INPUT: true; the input reads as it did. -/
def fnParseIntegerMatchesCanonicalModelSpec : ChangeSpec := { name := "fnParseIntegerMatchesCanonicalModel", fn := fun _ => fun
  | [d] => { results := [.lit (.bool true)], args := [d] }
  | _ => none }
def fnParseIntegerMatchesCanonicalModelRow : OpenClaim := { program := "qxb6628469a", sum := "906818af3c5bc2ef199bdb7296f006ae9f989714a449ef94a8a6cc0bb846e6db", func := "example.com/tideline/tideline/zzlaws_internal_resp_b1.FnParseIntegerMatchesCanonicalModel", spec := "fnParseIntegerMatchesCanonicalModel", apart := false }
def FnParseIntegerMatchesCanonicalModelSaid : Prop := fnParseIntegerMatchesCanonicalModelRow.holds Try.pinned (OpenSpec.ofChange fnParseIntegerMatchesCanonicalModelSpec)

/-- ITS FALSE NEIGHBOUR: 'it returns false'. Refute it at one input. -/
def fnParseIntegerMatchesCanonicalModelWrong : ChangeSpec := { name := "fnParseIntegerMatchesCanonicalModel", fn := fun _ => fun
  | [d] => { results := [.lit (.bool false)], args := [d] }
  | _ => none }
def FnParseIntegerMatchesCanonicalModelWrongFalsely : Prop := fnParseIntegerMatchesCanonicalModelRow.holds Try.pinned (OpenSpec.ofChange fnParseIntegerMatchesCanonicalModelWrong)

/-- 'zzlaws_internal_resp_b1.FnParseIntegerExtendsByOneByte': WHATEVER THE INPUT: true; the input reads as it did. -/
def fnParseIntegerExtendsByOneByteSpec : ChangeSpec := { name := "fnParseIntegerExtendsByOneByte", fn := fun _ => fun
  | [d] => { results := [.lit (.bool true)], args := [d] }
  | _ => none }
def fnParseIntegerExtendsByOneByteRow : OpenClaim := { program := "qxb6628469a", sum := "906818af3c5bc2ef199bdb7296f006ae9f989714a449ef94a8a6cc0bb846e6db", func := "example.com/tideline/tideline/zzlaws_internal_resp_b1.FnParseIntegerExtendsByOneByte", spec := "fnParseIntegerExtendsByOneByte", apart := false }
def FnParseIntegerExtendsByOneByteSaid : Prop := fnParseIntegerExtendsByOneByteRow.holds Try.pinned (OpenSpec.ofChange fnParseIntegerExtendsByOneByteSpec)

/-- ITS FALSE NEIGHBOUR: 'it returns false'. Refute it at one input. -/
def fnParseIntegerExtendsByOneByteWrong : ChangeSpec := { name := "fnParseIntegerExtendsByOneByte", fn := fun _ => fun
  | [d] => { results := [.lit (.bool false)], args := [d] }
  | _ => none }
def FnParseIntegerExtendsByOneByteWrongFalsely : Prop := fnParseIntegerExtendsByOneByteRow.holds Try.pinned (OpenSpec.ofChange fnParseIntegerExtendsByOneByteWrong)

end Rows
end Go.Proofs.Qxb6628469a
