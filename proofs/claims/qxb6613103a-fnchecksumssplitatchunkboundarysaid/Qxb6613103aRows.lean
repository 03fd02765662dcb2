/-
  No cell of these rows narrows 'for every input' (looked for: loops, veiled, ifaces, maps, wideKeys, modest, calm, conditions, laid).
  DERIVED. THE GIVEN ROWS OF THIS SEAT. 2 by the template 'for every input the law returns true; each argument reads behind the call as it read before'; 0 by the template 'total and deterministic' (their statements: Qxb6613103aTotals.lean).
  GIVEN WITH THE SEED: the statements are not yours to turn. If you find one false, say at which input.
  Laid BY PROGRAM, IN A SANDBOX (cutbox-rows.mjs): the forced cells as the released guide's own fill.sh prints them over the translation 9d728758127cf036… (all of the seat's roots in one cut). By AI agents, Wed Nov 11 2026. No macro, syntax, notation, axiom, sorry.
-/
import Derived.Test.Qxb6613103aChecked
import GoSem.Claim
import GoSem.ClaimJoined
import GoSem.ClaimMapViews
import Derived.JoinedTies
import Derived.KernelRfl
namespace Go.Proofs.Qxb6613103a
/- THE CELL 'sum', in the pinned program and in every row, IS THE sha256 OF THE DUMP (.gsa) THAT Qxb6613103aProg.lean LOADS. Nothing in Lean hashes anything: it is a label: what it is worth is what the hold of that sum in a sandbox is worth. -/
noncomputable def Try.pinned : Pinned := { name := "qxb6613103a", sum := "9d728758127cf0362db92c71a7e3e721b3a14492958352f169c81a197a416d1f", checked := Try.checked }
namespace Rows
def none {H : Type} : Left H := { results := [], args := [] }

/-- 'zzlaws_protocol_b1.FnChecksumsSplitAtChunkBoundary': WHATEVER THE INPUT: true; the input reads as it did. -/
def fnChecksumsSplitAtChunkBoundarySpec : ChangeSpec := { name := "fnChecksumsSplitAtChunkBoundary", fn := fun _ => fun
  | [d1, d2, d3, d4, d5, d6] => { results := [.lit (.bool true)], args := [d1, d2, d3, d4, d5, d6] }
  | _ => none }
def fnChecksumsSplitAtChunkBoundaryRow : OpenClaim := { program := "qxb6613103a", sum := "9d728758127cf0362db92c71a7e3e721b3a14492958352f169c81a197a416d1f", func := "example.com/starling/starling/zzlaws_protocol_b1.FnChecksumsSplitAtChunkBoundary", spec := "fnChecksumsSplitAtChunkBoundary", apart := false }
def FnChecksumsSplitAtChunkBoundarySaid : Prop := fnChecksumsSplitAtChunkBoundaryRow.holds Try.pinned (OpenSpec.ofChange fnChecksumsSplitAtChunkBoundarySpec)

/-- ITS FALSE NEIGHBOUR: 'it returns false'. Refute it at one input. -/
def fnChecksumsSplitAtChunkBoundaryWrong : ChangeSpec := { name := "fnChecksumsSplitAtChunkBoundary", fn := fun _ => fun
  | [d1, d2, d3, d4, d5, d6] => { results := [.lit (.bool false)], args := [d1, d2, d3, d4, d5, d6] }
  | _ => none }
def FnChecksumsSplitAtChunkBoundaryWrongFalsely : Prop := fnChecksumsSplitAtChunkBoundaryRow.holds Try.pinned (OpenSpec.ofChange fnChecksumsSplitAtChunkBoundaryWrong)

/-- 'zzlaws_protocol_b1.FnChecksumsGrowsByOneAtChunkStart': WHATEVER THE INPUT: true; the input reads as it did. -/
def fnChecksumsGrowsByOneAtChunkStartSpec : ChangeSpec := { name := "fnChecksumsGrowsByOneAtChunkStart", fn := fun _ => fun
  | [d1, d2, d3, d4, d5] => { results := [.lit (.bool true)], args := [d1, d2, d3, d4, d5] }
  | _ => none }
def fnChecksumsGrowsByOneAtChunkStartRow : OpenClaim := { program := "qxb6613103a", sum := "9d728758127cf0362db92c71a7e3e721b3a14492958352f169c81a197a416d1f", func := "example.com/starling/starling/zzlaws_protocol_b1.FnChecksumsGrowsByOneAtChunkStart", spec := "fnChecksumsGrowsByOneAtChunkStart", apart := false }
def FnChecksumsGrowsByOneAtChunkStartSaid : Prop := fnChecksumsGrowsByOneAtChunkStartRow.holds Try.pinned (OpenSpec.ofChange fnChecksumsGrowsByOneAtChunkStartSpec)

/-- ITS FALSE NEIGHBOUR: 'it returns false'. Refute it at one input. -/
def fnChecksumsGrowsByOneAtChunkStartWrong : ChangeSpec := { name := "fnChecksumsGrowsByOneAtChunkStart", fn := fun _ => fun
  | [d1, d2, d3, d4, d5] => { results := [.lit (.bool false)], args := [d1, d2, d3, d4, d5] }
  | _ => none }
def FnChecksumsGrowsByOneAtChunkStartWrongFalsely : Prop := fnChecksumsGrowsByOneAtChunkStartRow.holds Try.pinned (OpenSpec.ofChange fnChecksumsGrowsByOneAtChunkStartWrong)

end Rows
end Go.Proofs.Qxb6613103a
