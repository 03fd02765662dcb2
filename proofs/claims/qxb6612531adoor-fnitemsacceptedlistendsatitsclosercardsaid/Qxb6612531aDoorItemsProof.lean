/-
  THE PROOF OF 'Rows.FnItemsAcceptedListEndsAtItsCloserCardSaid': the guide's frame for a tied card (Derived/Test/MapyProofs.lean, MapyCard.lean) with a tied sentinel (GuardProofs.lean), at this function's number and types; the walk: Qxb6612531aDoorItemsWalk.
-/
import Derived.Test.Qxb6612531aDoorItemsWalk
import Derived.Test.Qxb6612531aDoorTie
import Derived.Test.Qxb6612531aDoorCards
import Derived.ProofKit
import Derived.LaidMore
import Derived.LaidHandle
import Derived.OpenShut
import Derived.MakeChecks
import Derived.Stop.Joined
import Derived.Stop.LaidErr
import Derived.RowKitTokens
import Derived.SevenTiedAt
namespace Go.Proofs.Qxb6612531aDoor.fnItemsAcceptedListEndsAtItsCloser
open Go.ChangeShapes Go.WideShapes Go.ChangeAt Go.RowKit
set_option linter.unusedVariables false

theorem own : ownKnob Tryd.prog.godebug = none := by kernel_rfl
theorem laidOut : laidOutB Tryd.prog = true := by kernel_rfl
abbrev laid : List (String × DataW Unit) := Rows.fnItemsAcceptedListEndsAtItsCloserRow.laid
abbrev nE : String := (Rows.fnItemsAcceptedListEndsAtItsCloserSpec.vars).headD ""
theorem gE : Tryd.prog.globalNamed nE = some 0 := by kernel_rfl
theorem tE : (Tryd.prog.globals[0]?).map (·.type) = some 30 := by kernel_rfl
theorem cells100 : Tryd.prog.cellsOf 100 = 1 := by kernel_rfl
theorem cells9 : Tryd.prog.cellsOf 9 = 1 := by kernel_rfl
abbrev nmE : String := match (Rows.laid_example_com_sigilchain_sigilchain_errNotJSON : DataW Unit) with | .iface n _ => n | _ => ""
theorem row76 (u : TypeId) (h : Tryd.prog.typeName? 3 u = some nmE) : u = 76 := by
  refine typeName_ptr_named (P := Tryd.prog) (nm := "errors.errorString") (tp := 76) ?_ (by kernel_rfl) (by decide) u ?_
  · kernel_rfl
  · exact h.trans (congrArg some (by decide))

theorem door_met (os : Os) (args : Array Value) : laidMetH Tryd.prog laid ((World.doorLaid Tryd.prog 400 os).forCall (fun _ _ => 0) ⟨#[], args, []⟩).memory :=
  laidMetH_of_parts3 (fuel := 8) (laidMet_of_run' 8 (by kernel_rfl) (by kernel_rfl)) (by kernel_rfl) (by kernel_rfl)

theorem var?_below {P : Program} {B g : Nat} {W W' : World} {n : String} {cs : Array Value} (h : Below B W W') (hg : P.globalNamed n = some g) (hgB : g < B) (hv : W.var? P n = some cs) : W'.var? P n = some cs := by
  unfold World.var? at hv ⊢
  simp only [hg, Option.bind_some] at hv ⊢
  rw [h.block g hgB]
  exact hv

theorem of_laid {W : World} (h : laidMetH Tryd.prog laid W) : ∃ a, W.var? Tryd.prog nE = some #[.iface 76 (.pointer (some a))] := by
  rw [MakeChecks.laidMetH_plain _ _ _ (by kernel_rfl)] at h
  obtain ⟨a, s, hv, _⟩ := laid_sentinel h gE tE Tryd.underlying30 row76 Tryd.underlying76 Tryd.underlying100 rfl rfl Tryd.underlying9 cells100 cells9
  exact ⟨a, hv⟩

set_option maxRecDepth 100000 in
theorem lifted (os : Os) (started : os.Started) (H : Type) (enc : TypeId × Value → H) :
    ReturnsInHanded {} Tryd.checked os 4 .any (fun w args => (Rows.fnItemsAcceptedListEndsAtItsCloserSpec.pre enc Tryd.prog Tryd.f4 [] false w args ∧ laidMetH Tryd.prog laid w) ∧ sizedMet enc Tryd.prog Tryd.f4 (OpenSpec.ofChange Rows.fnItemsAcceptedListEndsAtItsCloserSpec) false w args)
      (Rows.fnItemsAcceptedListEndsAtItsCloserSpec.post enc Tryd.prog Tryd.f4 false true false false) := by
  refine returnsInHanded_of_change_and (C := Tryd.checked) (X := fun w _ => laidMetH Tryd.prog laid w) (fun _ _ _ hh h => h.of_heap hh) own started (by kernel_rfl) Tryd.func4
    (ChangeSpec.witness_shaped (enc := enc) (C := Tryd.checked) (os := os) (X := fun w _ => laidMetH Tryd.prog laid w) false (World.doorLaid Tryd.prog 400 os) #[.slice none 0 0, .int .i64 0, .int .i64 0, .int .u8 0] 8 rfl (World.shaped_of_RefB (by kernel_rfl) (by kernel_rfl)) (by kernel_rfl) (by kernel_rfl) (by kernel_rfl) (door_met os _)) ?_
  intro W base args ds gs before hval0 hW _ _ hL _
  have hval : ∀ (j : Nat) t v, Tryd.f4.params[j]? = some t → args[j]? = some v → Value.okWide Tryd.prog W .any base t v := hval0
  have hW' := hW
  obtain ⟨p, q, hA0, hV0, rfl, hfz, hnd⟩ := hW
  have hA : DataW.TrodAll enc Tryd.prog W 0 (fun _ => true) true Tryd.f4.params.toList args.toList ds p := hA0
  have hV : DataW.TrodVars enc Tryd.prog W (fun _ => true) [nE] gs q := hV0
  rw [Tryd.params4] at hA hval
  obtain ⟨v0, vs0, d0, ds0, p0, q0, hargs, rfl, rfl, h0, r0⟩ := trodAll_cons hA
  obtain ⟨v1, vs1, d1, ds1, p1, q1, rfl, rfl, rfl, h1, r1⟩ := trodAll_cons r0
  obtain ⟨v2, vs2, d2, ds2, p2, q2, rfl, rfl, rfl, h2, r2⟩ := trodAll_cons r1
  obtain ⟨v3, vs3, d3, ds3, p3, q3, rfl, rfl, rfl, h3, r3⟩ := trodAll_cons r2
  obtain ⟨rfl, rfl, rfl⟩ := trodAll_nil r3
  obtain rfl : args = #[v0, v1, v2, v3] := by cases args; simp_all
  obtain ⟨a0, len0, cap0, rfl⟩ := okWide_slice Tryd.underlying25 (hval 0 25 v0 rfl rfl)
  have k0 := h0
  have lt0 : ∀ x ∈ p0, x.block < W.heap.size := by obtain ⟨m, hm⟩ := k0; exact DataW.trod_lt m _ _ _ hm
  obtain ⟨z0, w0⟩ : ∃ zs, itemsLaw.IsRow W a0 len0 cap0 zs := by
    obtain ⟨fuel, hf⟩ := h0
    rcases open_ints Tryd.underlying25 Tryd.underlying5 (by kernel_rfl) hf with ⟨hcs, _⟩ | ⟨x, l, c, zs, hcs, _, hl, hm, hz, _, hcell, hwz⟩
    · simp [Value.cells] at hcs
      obtain ⟨rfl, rfl, rfl⟩ := hcs
      exact ⟨[], .inl ⟨rfl, rfl, rfl, rfl⟩⟩
    · simp [Value.cells] at hcs
      obtain ⟨rfl, rfl, rfl⟩ := hcs
      exact ⟨zs, .inr ⟨_, rfl, hl, hm, by simpa using hz, fun i hi => hcell i (by simp at hz; omega)⟩⟩
  obtain ⟨a1, rfl, rfl, rfl, w1⟩ := open_int Tryd.underlying3 (hval 1 3 v1 rfl rfl) h1
  obtain ⟨a2, rfl, rfl, rfl, w2⟩ := open_int Tryd.underlying3 (hval 2 3 v2 rfl rfl) h2
  obtain ⟨a3, rfl, rfl, rfl, w3⟩ := open_int Tryd.underlying5 (hval 3 5 v3 rfl rfl) h3
  obtain ⟨ev, hv⟩ := of_laid hL
  obtain ⟨rfl, rfl⟩ := hV.unique (vars_read1 enc gE tE Tryd.underlying30 hv trivial _)
  have hc : W.cell? ⟨0, 0, none⟩ = some (read.err ev) := by simpa [read.err] using World.var?_cell gE hv 0
  have hlt := World.block_lt_of_cell? _ _ hc
  clear hA0 hV0 hval0
  refine (itemsLaw.walk a0 len0 cap0 z0 a1 a2 a3 ev W w0 hc).mono fun e W' ⟨he, bel⟩ => ?_
  subst he
  exact ⟨_, rfl, _, _, _, [], _, [.cell 0 0], hW', trodAll_mk1 (shut_bool Tryd.underlying4 _), (trodAll_cons_mk (Below.trod laidOut (by kernel_rfl) (of_decide_eq_true (by kernel_rfl)) k0 bel lt0) (trodAll_cons_mk (shut_int Tryd.underlying3 w1) (trodAll_cons_mk (shut_int Tryd.underlying3 w2) (trodAll_cons_mk (shut_int Tryd.underlying5 w3) trodAll_mk0)))), vars_read1 enc gE tE Tryd.underlying30 (var?_below bel gE hlt hv) trivial _, bel.frame _, fun h => by cases h⟩

theorem row_holds : Rows.FnItemsAcceptedListEndsAtItsCloserSaid :=
  OpenClaim.holds_of_wide 4 Tryd.f4 rfl rfl rfl rfl rfl rfl rfl ⟨rfl, rfl, rfl, rfl, rfl⟩ rfl rfl rfl rfl rfl (by kernel_rfl) Tryd.func4 (by kernel_rfl)
    (of_decide_eq_true (by kernel_rfl)) (by unfold Func.isWrapper; first | (rw [if_pos (by decide +kernel)]; kernel_rfl) | (rw [if_neg (by decide +kernel)]; exact ⟨rfl, rfl⟩))
    (fun os started H enc _ => lifted os started H enc)

theorem proved : Rows.FnItemsAcceptedListEndsAtItsCloserCardSaid :=
  Claim7.holds_tied_plain_at .later [] [.sentinel] true (true, "6057018c9de66d9395d8bee4c4d4c830dca62de4d5b8ef5e43ef25796f60ce1c") true
    row_holds (fun _ h => by cases h) (by kernel_rfl) (fun _ h => by cases h) fnItemsAcceptedListEndsAtItsCloser_row_tie rfl ⟨rfl, rfl⟩ (by kernel_rfl) rfl
    (fun f fn hf hfn => by
      obtain rfl : f = 4 := (Option.some.inj ((show Tryd.prog.funcNamed Rows.fnItemsAcceptedListEndsAtItsCloserRow.func = some 4 by kernel_rfl).symm.trans hf)).symm
      obtain rfl : fn = Tryd.f4 := (Option.some.inj (Tryd.func4.symm.trans hfn)).symm
      exact ⟨by kernel_rfl, fun j t ht => by
        rw [Tryd.params4] at ht
        have hm : t ∈ [25, 3, 3, 5] := by simpa using Array.mem_of_getElem? ht
        have hall : ([25, 3, 3, 5].all fun u => !Tryd.prog.wantsStandIn u) = true := by kernel_rfl
        exact (show Tryd.prog.wantsStandIn t = false by simpa using List.all_eq_true.1 hall t hm)⟩)
    (by kernel_rfl)
end Go.Proofs.Qxb6612531aDoor.fnItemsAcceptedListEndsAtItsCloser
