/-
  No cell of these rows narrows 'for every input' (looked for: loops, veiled, ifaces, maps, wideKeys, modest, calm, conditions, laid).
  DERIVED. THE GIVEN ROWS OF THIS SEAT. 2 by the template 'for every input the law returns true; each argument reads behind the call as it read before'; 0 by the template 'total and deterministic' (their statements: Qxb6628719aFmtTotals.lean).
  GIVEN WITH THE SEED: the statements are not yours to turn. If you find one false, say at which input.
  Laid BY PROGRAM, IN A SANDBOX (cutbox-rows.mjs): the forced cells as the released guide's own fill.sh prints them over the translation 78758d4db5397a98… (all of the seat's roots in one cut). By AI agents, Wed Nov 11 2026. No macro, syntax, notation, axiom, sorry.
-/
import Derived.Test.Qxb6628719aFmtChecked
import GoSem.Claim
import GoSem.ClaimJoined
import GoSem.ClaimMapViews
import Derived.JoinedTies
import Derived.KernelRfl
namespace Go.Proofs.Qxb6628719aFmt
/- THE CELL 'sum', in the pinned program and in every row, IS THE sha256 OF THE DUMP (.gsa) THAT Qxb6628719aFmtProg.lean LOADS. Nothing in Lean hashes anything: it is a label: what it is worth is what the hold of that sum in a sandbox is worth. -/
noncomputable def Tryf.pinned : Pinned := { name := "qxb6628719afmt", sum := "78758d4db5397a98f7ffcafd15d2580a4394130f6d6f3759ec73ec67a744c9e2", checked := Tryf.checked }
namespace Rows
def none {H : Type} : Left H := { results := [], args := [] }

/-- 'zzlaws_pkg_padding_b1.FnLenIsCappedWholePad': WHATEVER THE INPUT: true; the input reads as it did. -/
def fnLenIsCappedWholePadSpec : ChangeSpec := { name := "fnLenIsCappedWholePad", fn := fun _ => fun
  | [d1, d2, d3] => { results := [.lit (.bool true)], args := [d1, d2, d3] }
  | _ => none }
def fnLenIsCappedWholePadRow : OpenClaim := { program := "qxb6628719afmt", sum := "78758d4db5397a98f7ffcafd15d2580a4394130f6d6f3759ec73ec67a744c9e2", func := "example.com/hushpad/hushpad/zzlaws_pkg_padding_b1.FnLenIsCappedWholePad", spec := "fnLenIsCappedWholePad", stops := ["fmt.Sprintf", "fmt.errorf"], inPlace := ["fmt.errorf", "fmt.Sprintf"], apart := false }
/-- NO THEOREM (fmt's text is open here; it may be false): for the released tool's asking of the row's closed facts alone. THE STATEMENT IS 'FnLenIsCappedWholePadToldSaid' (Qxb6628719aFmtCards.lean). -/
def FnLenIsCappedWholePadFormAsk : Prop := fnLenIsCappedWholePadRow.holds Tryf.pinned (OpenSpec.ofChange fnLenIsCappedWholePadSpec)

/-- ITS FALSE NEIGHBOUR: 'it returns false'. Refute it at one input. -/
def fnLenIsCappedWholePadWrong : ChangeSpec := { name := "fnLenIsCappedWholePad", fn := fun _ => fun
  | [d1, d2, d3] => { results := [.lit (.bool false)], args := [d1, d2, d3] }
  | _ => none }
def FnLenIsCappedWholePadWrongFormAsk : Prop := fnLenIsCappedWholePadRow.holds Tryf.pinned (OpenSpec.ofChange fnLenIsCappedWholePadWrong)

/-- 'zzlaws_pkg_padding_b1.FnLenShiftByBlock': WHATEVER THE INPUT: true; the input reads as it did. -/
def fnLenShiftByBlockSpec : ChangeSpec := { name := "fnLenShiftByBlock", fn := fun _ => fun
  | [d1, d2, d3] => { results := [.lit (.bool true)], args := [d1, d2, d3] }
  | _ => none }
def fnLenShiftByBlockRow : OpenClaim := { program := "qxb6628719afmt", sum := "78758d4db5397a98f7ffcafd15d2580a4394130f6d6f3759ec73ec67a744c9e2", func := "example.com/hushpad/hushpad/zzlaws_pkg_padding_b1.FnLenShiftByBlock", spec := "fnLenShiftByBlock", stops := ["fmt.Sprintf", "fmt.errorf"], inPlace := ["fmt.errorf", "fmt.Sprintf"], apart := false }
/-- NO THEOREM (fmt's text is open here; it may be false): for the released tool's asking of the row's closed facts alone. THE STATEMENT IS 'FnLenShiftByBlockToldSaid' (Qxb6628719aFmtCards.lean). -/
def FnLenShiftByBlockFormAsk : Prop := fnLenShiftByBlockRow.holds Tryf.pinned (OpenSpec.ofChange fnLenShiftByBlockSpec)

/-- ITS FALSE NEIGHBOUR: 'it returns false'. Refute it at one input. -/
def fnLenShiftByBlockWrong : ChangeSpec := { name := "fnLenShiftByBlock", fn := fun _ => fun
  | [d1, d2, d3] => { results := [.lit (.bool false)], args := [d1, d2, d3] }
  | _ => none }
def FnLenShiftByBlockWrongFormAsk : Prop := fnLenShiftByBlockRow.holds Tryf.pinned (OpenSpec.ofChange fnLenShiftByBlockWrong)

end Rows
end Go.Proofs.Qxb6628719aFmt
