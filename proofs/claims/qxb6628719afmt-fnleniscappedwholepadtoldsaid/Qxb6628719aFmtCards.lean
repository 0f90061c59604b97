/-
  DERIVED. GIVEN WITH THE SEED: THE CARDS: each row of Qxb6628719aFmtRows.lean that lists a variable, with what it lists TIED to the program's text (the seventh form; the later family's looks); each row that meets fmt, with fmt's text TOLD by the authors' own Lean function (tested against real Go, not proved from fmt's source: count such statements apart). THE CARD IS WHAT COUNTS. Prove the row's statement (the work); the ties are given (Qxb6628719aFmtTie.lean); close each card by the builder's one call (the guide's Derived/Test/ToyasCard.lean, 'card_holds'). Laid BY PROGRAM, IN A SANDBOX (cutbox-door.mjs). By AI agents, Wed Nov 11 2026. No macro, syntax, notation, axiom, sorry.
-/
import Derived.Test.Qxb6628719aFmtRows
import GoSem.ClaimSeven
namespace Go.Proofs.Qxb6628719aFmt
namespace Rows

/-- THE TOLD CARD OF 'zzlaws_pkg_padding_b1.FnLenIsCappedWholePad'. -/
def fnLenIsCappedWholePadCard : Claim7 := { stood := { row := fnLenIsCappedWholePadRow, standIns := [], harness := (true, "39289d90cec4dd04d318a3c67298d67efb2ff86bbb4d9e8c1f6ae8310666b5b2"), looks := false }, told := true, goes := false }
def FnLenIsCappedWholePadToldSaid : Prop := Claim7.holds Tryf.pinned (.plain (OpenSpec.ofChange fnLenIsCappedWholePadSpec)) fnLenIsCappedWholePadCard
/-- ITS FALSE NEIGHBOUR. Refute it at one input. -/
def FnLenIsCappedWholePadToldWrongFalsely : Prop := Claim7.holds Tryf.pinned (.plain (OpenSpec.ofChange fnLenIsCappedWholePadWrong)) fnLenIsCappedWholePadCard

/-- THE TOLD CARD OF 'zzlaws_pkg_padding_b1.FnLenShiftByBlock'. -/
def fnLenShiftByBlockCard : Claim7 := { stood := { row := fnLenShiftByBlockRow, standIns := [], harness := (true, "39289d90cec4dd04d318a3c67298d67efb2ff86bbb4d9e8c1f6ae8310666b5b2"), looks := false }, told := true, goes := false }
def FnLenShiftByBlockToldSaid : Prop := Claim7.holds Tryf.pinned (.plain (OpenSpec.ofChange fnLenShiftByBlockSpec)) fnLenShiftByBlockCard
/-- ITS FALSE NEIGHBOUR. Refute it at one input. -/
def FnLenShiftByBlockToldWrongFalsely : Prop := Claim7.holds Tryf.pinned (.plain (OpenSpec.ofChange fnLenShiftByBlockWrong)) fnLenShiftByBlockCard
end Rows
end Go.Proofs.Qxb6628719aFmt
