/-
  DERIVED. GIVEN WITH THE SEED: THE CARDS: each row of Qxb6612531aDoorRows.lean that lists a variable, with what it lists TIED to the program's text (the seventh form; the later family's looks); each row that meets fmt, with fmt's text TOLD by the authors' own Lean function (tested against real Go, not proved from fmt's source: count such statements apart). THE CARD IS WHAT COUNTS. Prove the row's statement (the work); the ties are given (Qxb6612531aDoorTie.lean); close each card by the builder's one call (the guide's Derived/Test/ToyasCard.lean, 'card_holds'). Laid BY PROGRAM, IN A SANDBOX (cutbox-door.mjs). By AI agents, Wed Nov 11 2026. No macro, syntax, notation, axiom, sorry.
-/
import Derived.Test.Qxb6612531aDoorRows
import GoSem.ClaimSeven
namespace Go.Proofs.Qxb6612531aDoor
namespace Rows

/-- THE TIED CARD OF 'zzlaws_root_b1.FnClientRefusedPassesItsOwnAnswerBack'. -/
def fnClientRefusedPassesItsOwnAnswerBackCard : Claim7 := { stood := { row := fnClientRefusedPassesItsOwnAnswerBackRow, standIns := [], harness := (true, "6057018c9de66d9395d8bee4c4d4c830dca62de4d5b8ef5e43ef25796f60ce1c"), looks := true }, kinds := [], alts := [], laidByText := true, laidKinds := [.handle], laidTests := true, laidLooks := .later }
def FnClientRefusedPassesItsOwnAnswerBackCardSaid : Prop := Claim7.holds Tryd.pinned (.plain (OpenSpec.ofChange fnClientRefusedPassesItsOwnAnswerBackSpec)) fnClientRefusedPassesItsOwnAnswerBackCard

/-- THE TIED CARD OF 'zzlaws_root_b1.FnItemsAcceptedListEndsAtItsCloser'. -/
def fnItemsAcceptedListEndsAtItsCloserCard : Claim7 := { stood := { row := fnItemsAcceptedListEndsAtItsCloserRow, standIns := [], harness := (true, "6057018c9de66d9395d8bee4c4d4c830dca62de4d5b8ef5e43ef25796f60ce1c"), looks := true }, kinds := [], alts := [], laidByText := true, laidKinds := [.sentinel], laidTests := true, laidLooks := .later }
def FnItemsAcceptedListEndsAtItsCloserCardSaid : Prop := Claim7.holds Tryd.pinned (.plain (OpenSpec.ofChange fnItemsAcceptedListEndsAtItsCloserSpec)) fnItemsAcceptedListEndsAtItsCloserCard
end Rows
end Go.Proofs.Qxb6612531aDoor
