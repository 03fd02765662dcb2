/-
  NARROWER THAN 'FOR EVERY INPUT', by the rows' own cells (each row's printed sentence says how): FnClientRefusedPassesItsOwnAnswerBack: laid · FnItemsAcceptedListEndsAtItsCloser: ifaces, laid.
  DERIVED. THE GIVEN ROWS OF THIS SEAT. 2 by the template 'for every input the law returns true; each argument reads behind the call as it read before'; 0 by the template 'total and deterministic' (their statements: Qxb6612531aDoorTotals.lean).
  GIVEN WITH THE SEED: the statements are not yours to turn. If you find one false, say at which input.
  Laid BY PROGRAM, IN A SANDBOX (cutbox-rows.mjs): the forced cells as the released guide's own fill.sh prints them over the translation 137cca8da9e154e5… (all of the seat's roots in one cut). By AI agents, Wed Nov 11 2026. No macro, syntax, notation, axiom, sorry.
-/
import Derived.Test.Qxb6612531aDoorChecked
import GoSem.Claim
import GoSem.ClaimJoined
import GoSem.ClaimMapViews
import Derived.JoinedTies
import Derived.KernelRfl
namespace Go.Proofs.Qxb6612531aDoor
/- THE CELL 'sum', in the pinned program and in every row, IS THE sha256 OF THE DUMP (.gsa) THAT Qxb6612531aDoorProg.lean LOADS. Nothing in Lean hashes anything: it is a label: what it is worth is what the hold of that sum in a sandbox is worth. -/
noncomputable def Tryd.pinned : Pinned := { name := "qxb6612531adoor", sum := "137cca8da9e154e5918c2435100986b496905907a0526bff79efeee35bbbeded", checked := Tryd.checked }
namespace Rows
def none {H : Type} : Left H := { results := [], args := [] }

/- WHAT THE LISTED PACKAGE-LEVEL VARIABLES READ AS WHEN THE CALL BEGINS. Each datum BY PROGRAM (the guide's laid-datum.mjs) off the statement by which the dump's own 'gosem.cut.vars' lays the variable. In a bare row this is a premise. The card (Qxb6612531aDoorCards.lean) ties it to the program's text. -/
def laid_errors_errorType {H : Type} : DataW H := .iface "internal/reflectlite.rtype" (.agg [.ptr (.lit (.string [101, 114, 114, 111, 114]))])
def laid_example_com_sigilchain_sigilchain_errNotJSON {H : Type} : DataW H := .iface "*errors.errorString" (.ptr (.agg [.lit (.string [105, 115, 32, 110, 111, 116, 32, 118, 97, 108, 105, 100, 32, 74, 83, 79, 78])]))

/-- 'zzlaws_root_b1.FnClientRefusedPassesItsOwnAnswerBack': WHATEVER THE INPUT: true; the input reads as it did. -/
def fnClientRefusedPassesItsOwnAnswerBackSpec : ChangeSpec := { name := "fnClientRefusedPassesItsOwnAnswerBack", fn := fun _ => fun
  | [d1, d2, d3, d4] => { results := [.lit (.bool true)], args := [d1, d2, d3, d4] }
  | _ => none }
def fnClientRefusedPassesItsOwnAnswerBackRow : OpenClaim := { program := "qxb6612531adoor", sum := "137cca8da9e154e5918c2435100986b496905907a0526bff79efeee35bbbeded", func := "example.com/sigilchain/sigilchain/zzlaws_root_b1.FnClientRefusedPassesItsOwnAnswerBack", spec := "fnClientRefusedPassesItsOwnAnswerBack", inPlace := ["internal/reflectlite.ValueOf", "(internal/reflectlite.Value).Type", "(internal/reflectlite.Value).IsNil", "internal/reflectlite.TypeOf", "(internal/reflectlite.Value).Elem", "(internal/reflectlite.Value).Set"], unfollowed := true, recurses := true, named := ["errors.errorType"], apart := false, laid := [("errors.errorType", laid_errors_errorType)] }
def FnClientRefusedPassesItsOwnAnswerBackSaid : Prop := fnClientRefusedPassesItsOwnAnswerBackRow.holds Tryd.pinned (OpenSpec.ofChange fnClientRefusedPassesItsOwnAnswerBackSpec)

/-- ITS FALSE NEIGHBOUR: 'it returns false'. Refute it at one input. -/
def fnClientRefusedPassesItsOwnAnswerBackWrong : ChangeSpec := { name := "fnClientRefusedPassesItsOwnAnswerBack", fn := fun _ => fun
  | [d1, d2, d3, d4] => { results := [.lit (.bool false)], args := [d1, d2, d3, d4] }
  | _ => none }
def FnClientRefusedPassesItsOwnAnswerBackWrongFalsely : Prop := fnClientRefusedPassesItsOwnAnswerBackRow.holds Tryd.pinned (OpenSpec.ofChange fnClientRefusedPassesItsOwnAnswerBackWrong)

/-- 'zzlaws_root_b1.FnItemsAcceptedListEndsAtItsCloser': WHATEVER THE INPUT: true; the input reads as it did. -/
def fnItemsAcceptedListEndsAtItsCloserSpec : ChangeSpec := { name := "fnItemsAcceptedListEndsAtItsCloser", vars := ["example.com/sigilchain/sigilchain.errNotJSON"], fn := fun _ => fun
  | [d1, d2, d3, d4, g1] => { results := [.lit (.bool true)], args := [d1, d2, d3, d4], vars := [g1] }
  | _ => none }
def fnItemsAcceptedListEndsAtItsCloserRow : OpenClaim := { program := "qxb6612531adoor", sum := "137cca8da9e154e5918c2435100986b496905907a0526bff79efeee35bbbeded", func := "example.com/sigilchain/sigilchain/zzlaws_root_b1.FnItemsAcceptedListEndsAtItsCloser", spec := "fnItemsAcceptedListEndsAtItsCloser", unfollowed := true, recurses := true, named := ["example.com/sigilchain/sigilchain.errNotJSON"], ifaces := true, apart := false, laid := [("example.com/sigilchain/sigilchain.errNotJSON", laid_example_com_sigilchain_sigilchain_errNotJSON)] }
def FnItemsAcceptedListEndsAtItsCloserSaid : Prop := fnItemsAcceptedListEndsAtItsCloserRow.holds Tryd.pinned (OpenSpec.ofChange fnItemsAcceptedListEndsAtItsCloserSpec)

/-- ITS FALSE NEIGHBOUR: 'it returns false'. Refute it at one input. -/
def fnItemsAcceptedListEndsAtItsCloserWrong : ChangeSpec := { name := "fnItemsAcceptedListEndsAtItsCloser", vars := ["example.com/sigilchain/sigilchain.errNotJSON"], fn := fun _ => fun
  | [d1, d2, d3, d4, g1] => { results := [.lit (.bool false)], args := [d1, d2, d3, d4], vars := [g1] }
  | _ => none }
def FnItemsAcceptedListEndsAtItsCloserWrongFalsely : Prop := fnItemsAcceptedListEndsAtItsCloserRow.holds Tryd.pinned (OpenSpec.ofChange fnItemsAcceptedListEndsAtItsCloserWrong)

end Rows
end Go.Proofs.Qxb6612531aDoor
