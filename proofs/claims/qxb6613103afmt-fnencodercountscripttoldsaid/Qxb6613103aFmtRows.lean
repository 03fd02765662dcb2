/-
  No cell of these rows narrows 'for every input' (looked for: loops, veiled, ifaces, maps, wideKeys, modest, calm, conditions, laid).
  DERIVED. THE GIVEN ROWS OF THIS SEAT. 1 by the template 'for every input the law returns true; each argument reads behind the call as it read before'; 0 by the template 'total and deterministic' (their statements: Qxb6613103aFmtTotals.lean).
  GIVEN WITH THE SEED: the statements are not yours to turn. If you find one false, say at which input.
  Laid BY PROGRAM, IN A SANDBOX (cutbox-rows.mjs): the forced cells as the released guide's own fill.sh prints them over the translation d1054d2a1403a750… (all of the seat's roots in one cut). By AI agents, Wed Nov 11 2026. No macro, syntax, notation, axiom, sorry.
-/
import Derived.Test.Qxb6613103aFmtChecked
import GoSem.Claim
import GoSem.ClaimJoined
import GoSem.ClaimMapViews
import Derived.JoinedTies
import Derived.KernelRfl
namespace Go.Proofs.Qxb6613103aFmt
/- THE CELL 'sum', in the pinned program and in every row, IS THE sha256 OF THE DUMP (.gsa) THAT Qxb6613103aFmtProg.lean LOADS. Nothing in Lean hashes anything: it is a label: what it is worth is what the hold of that sum in a sandbox is worth. -/
noncomputable def Tryf.pinned : Pinned := { name := "qxb6613103afmt", sum := "d1054d2a1403a75013148ab4f008efdc340c2bed1a2dd4facfcac247af442968", checked := Tryf.checked }
namespace Rows
def none {H : Type} : Left H := { results := [], args := [] }

/-- 'zzlaws_protocol_b1.FnEncoderCountScript': WHATEVER THE INPUT: true; the input reads as it did. -/
def fnEncoderCountScriptSpec : ChangeSpec := { name := "fnEncoderCountScript", fn := fun _ => fun
  | [d1, d2, d3, d4, d5] => { results := [.lit (.bool true)], args := [d1, d2, d3, d4, d5] }
  | _ => none }
def fnEncoderCountScriptRow : OpenClaim := { program := "qxb6613103afmt", sum := "d1054d2a1403a75013148ab4f008efdc340c2bed1a2dd4facfcac247af442968", func := "example.com/starling/starling/zzlaws_protocol_b1.FnEncoderCountScript", spec := "fnEncoderCountScript", stops := ["fmt.errorf"], inPlace := ["fmt.errorf"], named := ["encoding/binary.BigEndian"], apart := false }
/-- NO THEOREM (fmt's text is open here; it may be false): for the released tool's asking of the row's closed facts alone. THE STATEMENT IS 'FnEncoderCountScriptToldSaid' (Qxb6613103aFmtCards.lean). -/
def FnEncoderCountScriptFormAsk : Prop := fnEncoderCountScriptRow.holds Tryf.pinned (OpenSpec.ofChange fnEncoderCountScriptSpec)

/-- ITS FALSE NEIGHBOUR: 'it returns false'. Refute it at one input. -/
def fnEncoderCountScriptWrong : ChangeSpec := { name := "fnEncoderCountScript", fn := fun _ => fun
  | [d1, d2, d3, d4, d5] => { results := [.lit (.bool false)], args := [d1, d2, d3, d4, d5] }
  | _ => none }
def FnEncoderCountScriptWrongFormAsk : Prop := fnEncoderCountScriptRow.holds Tryf.pinned (OpenSpec.ofChange fnEncoderCountScriptWrong)

end Rows
end Go.Proofs.Qxb6613103aFmt
