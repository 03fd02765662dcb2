/-
  No cell of these rows narrows 'for every input' (looked for: loops, veiled, ifaces, maps, wideKeys, modest, calm, conditions, laid).
  DERIVED. THE GIVEN ROWS OF THIS SEAT. 3 by the template 'for every input the law returns true; each argument reads behind the call as it read before'; 0 by the template 'total and deterministic' (their statements: Qxb6609531aTotals.lean).
  GIVEN WITH THE SEED: the statements are not yours to turn. If you find one false, say at which input.
  Laid BY PROGRAM, IN A SANDBOX (cutbox-rows.mjs): the forced cells as the released guide's own fill.sh prints them over the translation b550240903825f06… (all of the seat's roots in one cut). By AI agents, Wed Nov 11 2026. No macro, syntax, notation, axiom, sorry.
-/
import Derived.Test.Qxb6609531aChecked
import GoSem.Claim
import GoSem.ClaimJoined
import GoSem.ClaimMapViews
import Derived.JoinedTies
import Derived.KernelRfl
namespace Go.Proofs.Qxb6609531a
/- THE CELL 'sum', in the pinned program and in every row, IS THE sha256 OF THE DUMP (.gsa) THAT Qxb6609531aProg.lean LOADS. Nothing in Lean hashes anything: it is a label: what it is worth is what the hold of that sum in a sandbox is worth. -/
noncomputable def Try.pinned : Pinned := { name := "qxb6609531a", sum := "b550240903825f062529cf2a067d556b17205ee2a60fffc606aca473911675a7", checked := Try.checked }
namespace Rows
def none {H : Type} : Left H := { results := [], args := [] }

/-- 'zzlaws_internal_document_b1.FnNewValueNumbersAndPlacesEachValue': WHATEVER THE INPUT: true; the input reads as it did. -/
def fnNewValueNumbersAndPlacesEachValueSpec : ChangeSpec := { name := "fnNewValueNumbersAndPlacesEachValue", fn := fun _ => fun
  | [d1, d2] => { results := [.lit (.bool true)], args := [d1, d2] }
  | _ => none }
def fnNewValueNumbersAndPlacesEachValueRow : OpenClaim := { program := "qxb6609531a", sum := "b550240903825f062529cf2a067d556b17205ee2a60fffc606aca473911675a7", func := "example.com/whale-shark/whale-shark/zzlaws_internal_document_b1.FnNewValueNumbersAndPlacesEachValue", spec := "fnNewValueNumbersAndPlacesEachValue", apart := false }
def FnNewValueNumbersAndPlacesEachValueSaid : Prop := fnNewValueNumbersAndPlacesEachValueRow.holds Try.pinned (OpenSpec.ofChange fnNewValueNumbersAndPlacesEachValueSpec)

/-- ITS FALSE NEIGHBOUR: 'it returns false'. Refute it at one input. -/
def fnNewValueNumbersAndPlacesEachValueWrong : ChangeSpec := { name := "fnNewValueNumbersAndPlacesEachValue", fn := fun _ => fun
  | [d1, d2] => { results := [.lit (.bool false)], args := [d1, d2] }
  | _ => none }
def FnNewValueNumbersAndPlacesEachValueWrongFalsely : Prop := fnNewValueNumbersAndPlacesEachValueRow.holds Try.pinned (OpenSpec.ofChange fnNewValueNumbersAndPlacesEachValueWrong)

/-- 'zzlaws_internal_document_b1.FnNewItemsGivesFreshDistinctItems': WHATEVER THE INPUT: true; the input reads as it did. -/
def fnNewItemsGivesFreshDistinctItemsSpec : ChangeSpec := { name := "fnNewItemsGivesFreshDistinctItems", fn := fun _ => fun
  | [d1, d2] => { results := [.lit (.bool true)], args := [d1, d2] }
  | _ => none }
def fnNewItemsGivesFreshDistinctItemsRow : OpenClaim := { program := "qxb6609531a", sum := "b550240903825f062529cf2a067d556b17205ee2a60fffc606aca473911675a7", func := "example.com/whale-shark/whale-shark/zzlaws_internal_document_b1.FnNewItemsGivesFreshDistinctItems", spec := "fnNewItemsGivesFreshDistinctItems", apart := false }
def FnNewItemsGivesFreshDistinctItemsSaid : Prop := fnNewItemsGivesFreshDistinctItemsRow.holds Try.pinned (OpenSpec.ofChange fnNewItemsGivesFreshDistinctItemsSpec)

/-- ITS FALSE NEIGHBOUR: 'it returns false'. Refute it at one input. -/
def fnNewItemsGivesFreshDistinctItemsWrong : ChangeSpec := { name := "fnNewItemsGivesFreshDistinctItems", fn := fun _ => fun
  | [d1, d2] => { results := [.lit (.bool false)], args := [d1, d2] }
  | _ => none }
def FnNewItemsGivesFreshDistinctItemsWrongFalsely : Prop := fnNewItemsGivesFreshDistinctItemsRow.holds Try.pinned (OpenSpec.ofChange fnNewItemsGivesFreshDistinctItemsWrong)

/-- 'zzlaws_internal_document_b1.FnNewValueAndNewItemsInterleaved': WHATEVER THE INPUT: true; the input reads as it did. -/
def fnNewValueAndNewItemsInterleavedSpec : ChangeSpec := { name := "fnNewValueAndNewItemsInterleaved", fn := fun _ => fun
  | [d1, d2] => { results := [.lit (.bool true)], args := [d1, d2] }
  | _ => none }
def fnNewValueAndNewItemsInterleavedRow : OpenClaim := { program := "qxb6609531a", sum := "b550240903825f062529cf2a067d556b17205ee2a60fffc606aca473911675a7", func := "example.com/whale-shark/whale-shark/zzlaws_internal_document_b1.FnNewValueAndNewItemsInterleaved", spec := "fnNewValueAndNewItemsInterleaved", apart := false }
def FnNewValueAndNewItemsInterleavedSaid : Prop := fnNewValueAndNewItemsInterleavedRow.holds Try.pinned (OpenSpec.ofChange fnNewValueAndNewItemsInterleavedSpec)

/-- ITS FALSE NEIGHBOUR: 'it returns false'. Refute it at one input. -/
def fnNewValueAndNewItemsInterleavedWrong : ChangeSpec := { name := "fnNewValueAndNewItemsInterleaved", fn := fun _ => fun
  | [d1, d2] => { results := [.lit (.bool false)], args := [d1, d2] }
  | _ => none }
def FnNewValueAndNewItemsInterleavedWrongFalsely : Prop := fnNewValueAndNewItemsInterleavedRow.holds Try.pinned (OpenSpec.ofChange fnNewValueAndNewItemsInterleavedWrong)

end Rows
end Go.Proofs.Qxb6609531a
