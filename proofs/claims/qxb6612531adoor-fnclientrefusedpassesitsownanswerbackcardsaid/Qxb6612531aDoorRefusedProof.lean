/-
  THE PROOF OF 'Rows.FnClientRefusedPassesItsOwnAnswerBackCardSaid': the guide's frame for a tied card over a type handle (Derived/Test/ToyasProofs.lean, ToyasCard.lean), at this function's number and types; the walk: Qxb6612531aDoorRefusedLaw.
-/
import Derived.Test.Qxb6612531aDoorRefusedLaw
import Derived.Test.Qxb6612531aDoorTie
import Derived.Test.Qxb6612531aDoorCards
import Derived.ProofKit
import Derived.LaidMore
import Derived.LaidHandle
import Derived.OpenShut
import Derived.ShutString
import Derived.Stop.Joined
import Derived.RowKitTokens
import Derived.SevenTiedAt
namespace Go.Proofs.Qxb6612531aDoor.fnClientRefusedPassesItsOwnAnswerBack
open Go.ChangeShapes Go.WideShapes Go.ChangeAt Go.RowKit
open Go.ChangeMaps (open_string shut_string)
set_option linter.unusedVariables false

theorem own : ownKnob Tryd.prog.godebug = none := by kernel_rfl
abbrev laid : List (String × DataW Unit) := Rows.fnClientRefusedPassesItsOwnAnswerBackRow.laid
theorem et : Tryd.prog.globalNamed "errors.errorType" = some 1 := by kernel_rfl
abbrev rtName : String := match (Rows.laid_errors_errorType : DataW Unit) with | .iface n _ => n | _ => ""
theorem rt : (Tryd.prog.cutTypes.find? (·.1 == rtName)).map (·.2) = some 64 := by kernel_rfl
theorem oneRow : ((List.range 116).filter fun t => Tryd.prog.rowNamed t [101, 114, 114, 111, 114]) = [30] := by kernel_rfl
theorem size : Tryd.prog.types.size = 116 := by kernel_rfl

theorem handle_of_laid {W : World} (h : laidMetH Tryd.prog laid W) : refused.ErrType W := by
  have h' : laidMet Tryd.prog [] W ∧ handlesMet Tryd.prog laid W := h
  obtain ⟨name, u, ty, e1, e2, e3, e4, e5⟩ := h'.2 _ (List.mem_singleton.2 rfl)
  have en : name = [101, 114, 114, 111, 114] := (Option.some.inj e1).symm
  subst en
  obtain rfl := Option.some.inj (rt.symm.trans e2)
  have hm : ty ∈ (List.range 116).filter fun t => Tryd.prog.rowNamed t [101, 114, 114, 111, 114] := List.mem_filter.2 ⟨List.mem_range.2 (by rw [← size]; exact e3), e4⟩
  rw [oneRow] at hm
  obtain rfl := List.mem_singleton.1 hm
  have hh : typeHandle Tryd.prog 30 = .pointer (some ⟨2, 30, none⟩) := by kernel_rfl
  rw [hh] at e5
  simpa [refused.ErrType] using World.var?_cell et e5 0

theorem door_met (os : Os) (args : Array Value) : laidMetH Tryd.prog laid ((World.doorLaid Tryd.prog 400 os).forCall (fun _ _ => 0) ⟨#[], args, []⟩).memory :=
  laidMetH_of_parts3 (fuel := 8) (laidMet_of_run' 8 (by kernel_rfl) (by kernel_rfl)) (by kernel_rfl) (by kernel_rfl)

set_option maxRecDepth 100000 in
theorem lifted (os : Os) (started : os.Started) (H : Type) (enc : TypeId × Value → H) :
    ReturnsInHanded {} Tryd.checked os 3 .any (fun w args => (Rows.fnClientRefusedPassesItsOwnAnswerBackSpec.pre enc Tryd.prog Tryd.f3 [] false w args ∧ laidMetH Tryd.prog laid w) ∧ sizedMet enc Tryd.prog Tryd.f3 (OpenSpec.ofChange Rows.fnClientRefusedPassesItsOwnAnswerBackSpec) false w args)
      (Rows.fnClientRefusedPassesItsOwnAnswerBackSpec.post enc Tryd.prog Tryd.f3 false true false false) := by
  refine returnsInHanded_of_change_and (C := Tryd.checked) (X := fun w _ => laidMetH Tryd.prog laid w) (fun _ _ _ hh h => h.of_heap hh) own started (by kernel_rfl) Tryd.func3
    (ChangeSpec.witness_shaped (enc := enc) (C := Tryd.checked) (os := os) (X := fun w _ => laidMetH Tryd.prog laid w) false (World.doorLaid Tryd.prog 400 os) #[.string ⟨#[]⟩, .string ⟨#[]⟩, .string ⟨#[]⟩, .string ⟨#[]⟩] 8 rfl (World.shaped_of_RefB (by kernel_rfl) (by kernel_rfl)) (by kernel_rfl) (by kernel_rfl) (by kernel_rfl) (door_met os _)) ?_
  intro W base args ds gs before hval0 hW _ _ hL _
  have hval : ∀ (j : Nat) t v, Tryd.f3.params[j]? = some t → args[j]? = some v → Value.okWide Tryd.prog W .any base t v := hval0
  have hW' := hW
  obtain ⟨p, q, hA0, hV, rfl, hfz, hnd⟩ := hW
  have hA : DataW.TrodAll enc Tryd.prog W 0 (fun _ => true) true Tryd.f3.params.toList args.toList ds p := hA0
  rw [Tryd.params3] at hA hval
  obtain ⟨v0, vs0, d0, ds0, p0, q0, hargs, rfl, rfl, h0, r0⟩ := trodAll_cons hA
  obtain ⟨v1, vs1, d1, ds1, p1, q1, rfl, rfl, rfl, h1, r1⟩ := trodAll_cons r0
  obtain ⟨v2, vs2, d2, ds2, p2, q2, rfl, rfl, rfl, h2, r2⟩ := trodAll_cons r1
  obtain ⟨v3, vs3, d3, ds3, p3, q3, rfl, rfl, rfl, h3, r3⟩ := trodAll_cons r2
  obtain ⟨rfl, rfl, rfl⟩ := trodAll_nil r3
  obtain rfl : args = #[v0, v1, v2, v3] := by cases args; simp_all
  obtain ⟨rfl, rfl⟩ := trodVars_none hV
  obtain ⟨a0, rfl, rfl, rfl, w0⟩ := open_string Tryd.underlying9 (hval 0 9 v0 rfl rfl) h0
  obtain ⟨a1, rfl, rfl, rfl, w1⟩ := open_string Tryd.underlying9 (hval 1 9 v1 rfl rfl) h1
  obtain ⟨a2, rfl, rfl, rfl, w2⟩ := open_string Tryd.underlying9 (hval 2 9 v2 rfl rfl) h2
  obtain ⟨a3, rfl, rfl, rfl, w3⟩ := open_string Tryd.underlying9 (hval 3 9 v3 rfl rfl) h3
  have hg := handle_of_laid hL
  clear hA0 hval0
  refine (refused.walk a0 a1 a2 a3 w0 w1 w2 w3 W hg).mono fun e W' ⟨he, bel⟩ => ?_
  subst he
  exact ⟨_, rfl, _, _, _, [], _, [], hW', trodAll_mk1 (shut_bool Tryd.underlying4 _), (trodAll_cons_mk (shut_string Tryd.underlying9 w0) (trodAll_cons_mk (shut_string Tryd.underlying9 w1) (trodAll_cons_mk (shut_string Tryd.underlying9 w2) (trodAll_cons_mk (shut_string Tryd.underlying9 w3) trodAll_mk0)))), rfl, bel.frame _, fun h => by cases h⟩

theorem row_holds : Rows.FnClientRefusedPassesItsOwnAnswerBackSaid :=
  OpenClaim.holds_of_wide 3 Tryd.f3 rfl rfl rfl rfl rfl rfl rfl ⟨rfl, rfl, rfl, rfl, rfl⟩ rfl rfl rfl rfl rfl (by kernel_rfl) Tryd.func3 (by kernel_rfl)
    (of_decide_eq_true (by kernel_rfl)) (by unfold Func.isWrapper; first | (rw [if_pos (by decide +kernel)]; kernel_rfl) | (rw [if_neg (by decide +kernel)]; exact ⟨rfl, rfl⟩))
    (fun os started H enc _ => lifted os started H enc)

theorem proved : Rows.FnClientRefusedPassesItsOwnAnswerBackCardSaid :=
  Claim7.holds_tied_plain_at .later [] [.handle] true (true, "6057018c9de66d9395d8bee4c4d4c830dca62de4d5b8ef5e43ef25796f60ce1c") true
    row_holds (fun _ h => by cases h) (by kernel_rfl) (fun _ h => by cases h) fnClientRefusedPassesItsOwnAnswerBack_row_tie rfl ⟨rfl, rfl⟩ (by kernel_rfl) rfl
    (fun f fn hf hfn => by
      obtain rfl : f = 3 := (Option.some.inj ((show Tryd.prog.funcNamed Rows.fnClientRefusedPassesItsOwnAnswerBackRow.func = some 3 by kernel_rfl).symm.trans hf)).symm
      obtain rfl : fn = Tryd.f3 := (Option.some.inj (Tryd.func3.symm.trans hfn)).symm
      exact ⟨by kernel_rfl, fun j t ht => by
        rw [Tryd.params3] at ht
        have hm : t ∈ [9, 9, 9, 9] := by simpa using Array.mem_of_getElem? ht
        have hall : ([9, 9, 9, 9].all fun u => !Tryd.prog.wantsStandIn u) = true := by kernel_rfl
        exact (show Tryd.prog.wantsStandIn t = false by simpa using List.all_eq_true.1 hall t hm)⟩)
    (by kernel_rfl)
end Go.Proofs.Qxb6612531aDoor.fnClientRefusedPassesItsOwnAnswerBack
