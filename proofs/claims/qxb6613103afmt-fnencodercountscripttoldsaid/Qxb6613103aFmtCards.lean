/-
  DERIVED. GIVEN WITH THE SEED: THE CARDS: each row of Qxb6613103aFmtRows.lean that lists a variable, with what it lists TIED to the program's text (the seventh form; the later family's looks); each row that meets fmt, with fmt's text TOLD by the authors' own Lean function (tested against real Go, not proved from fmt's source: count such statements apart). THE CARD IS WHAT COUNTS. Prove the row's statement (the work); the ties are given (Qxb6613103aFmtTie.lean); close each card by the builder's one call (the guide's Derived/Test/ToyasCard.lean, 'card_holds'). Laid BY PROGRAM, IN A SANDBOX (cutbox-door.mjs). By AI agents, Wed Nov 11 2026. No macro, syntax, notation, axiom, sorry.
-/
import Derived.Test.Qxb6613103aFmtRows
import GoSem.ClaimSeven
namespace Go.Proofs.Qxb6613103aFmt
namespace Rows

/-- THE TOLD CARD OF 'zzlaws_protocol_b1.FnEncoderCountScript'. -/
def fnEncoderCountScriptCard : Claim7 := { stood := { row := fnEncoderCountScriptRow, standIns := [], harness := (true, "c9f85ad26bdb548bc1168c71bf46f37e46fa724a3d8d0436fd56c8790cd57ee4"), looks := false }, told := true, goes := false }
def FnEncoderCountScriptToldSaid : Prop := Claim7.holds Tryf.pinned (.plain (OpenSpec.ofChange fnEncoderCountScriptSpec)) fnEncoderCountScriptCard
/-- ITS FALSE NEIGHBOUR. Refute it at one input. -/
def FnEncoderCountScriptToldWrongFalsely : Prop := Claim7.holds Tryf.pinned (.plain (OpenSpec.ofChange fnEncoderCountScriptWrong)) fnEncoderCountScriptCard
end Rows
end Go.Proofs.Qxb6613103aFmt
