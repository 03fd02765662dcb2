/-
  THE PROOF OF 'Rows.FnChecksumsGrowsByOneAtChunkStartSaid' ('example.com/starling/starling/zzlaws_protocol_b1.FnChecksumsGrowsByOneAtChunkStart'), WRITTEN BY PROGRAM (proof-skeleton.mjs) off the guide's own print for that function.
  The frame is the guide's template; the walk is filled by hand.
-/
import Derived.Test.Qxb6613103aRows
import Derived.Test.Qxb6613103aWalks
import Derived.WalkKit
import Derived.ProofKit
import Derived.OpenShut
import Derived.ShutString
namespace Go.Proofs.Qxb6613103a.fnChecksumsGrowsByOneAtChunkStart
open Go.ChangeShapes Go.WideShapes Go.ChangeAt Go.RowKit
open Go.ChangeMaps (open_string shut_string)
set_option linter.unusedVariables false      -- a walk need not use every 'w<i>' (that an integer argument fits its kind)

theorem own : ownKnob Try.prog.godebug = none := by kernel_rfl

/-! ### STEP 1: THE WALK: the Go text returns true. 'Grown w w'': the world has at most new blocks (Derived/RowKit3.lean). Part the cases AHEAD of 'go_enter' where a test parts the walk; take each callee by a contract of your own. -/
set_option maxHeartbeats 1600000 in
theorem walk (a0 : ByteArray) (a1 : ByteArray) (a2 : Int) (a3 : Int) (a4 : Int) (w0 : a0.size ≤ maxLen) (w1 : a1.size ≤ maxLen) (w2 : (Lit.int .u64 a2).wf = true) (w3 : (Lit.int .u32 a3).wf = true) (w4 : (Lit.int .u32 a4).wf = true) (w : World) :
    Calls Try.prog 4 #[.string a0, .string a1, .int .u64 a2, .int .u32 a3, .int .u32 a4] w fun e w' => e = .returned (.bool true) ∧ Grown w w' := by
  have hb3 := bounds_u32 w3
  have hb4 := bounds_u32 w4
  by_cases hf : (65536 : Int) < a0.size
  · go_enter Try.func4, Try.ntmps4
    go_wp2_with fail
    refine (walks.zzBytes7 a0 a1 a2 a3 a4 w0 w1 _).mono ?_
    rintro e w' ⟨⟨b, rfl⟩, rfl⟩
    unfold maxLen at w0 w1
    cases b <;> go_wp2 <;> (go_ret; exact ⟨rfl, Grown.refl _⟩)
  by_cases hn : (65536 : Int) < a1.size
  · go_enter Try.func4, Try.ntmps4
    go_wp2_with fail
    refine (walks.zzBytes7 a0 a1 a2 a3 a4 w0 w1 _).mono ?_
    rintro e w' ⟨⟨b, rfl⟩, rfl⟩
    unfold maxLen at w0 w1
    cases b <;> go_wp2 <;> (go_ret; exact ⟨rfl, Grown.refl _⟩)
  by_cases hk : a4 = 0
  · have hk' : (a4 == 0) = true := beq_iff_eq.2 hk
    clear hk
    go_enter Try.func4, Try.ntmps4
    go_wp2_with fail
    refine (walks.zzBytes7 a0 a1 a2 a3 a4 w0 w1 _).mono ?_
    rintro e w' ⟨⟨b, rfl⟩, rfl⟩
    unfold maxLen at w0 w1
    cases b <;> go_wp2 <;> (go_ret; exact ⟨rfl, Grown.refl _⟩)
  have hk' : (a4 == 0) = false := beq_eq_false_iff_ne.2 hk
  by_cases hm : a3 = 4294967295
  · have hm' : (a3 == 4294967295) = true := beq_iff_eq.2 hm
    clear hm
    go_enter Try.func4, Try.ntmps4
    go_wp2_with fail
    refine (walks.zzBytes7 a0 a1 a2 a3 a4 w0 w1 _).mono ?_
    rintro e w' ⟨⟨b, rfl⟩, rfl⟩
    unfold maxLen at w0 w1
    cases b <;> go_wp2 <;> (go_ret; exact ⟨rfl, Grown.refl _⟩)
  have hm' : (a3 == 4294967295) = false := beq_eq_false_iff_ne.2 hm
  have hcb := walks.cnt_bounds a3 a4 (by omega) (by omega)
  by_cases hz : a3 % a4 = 0
  · have hnext : Hid (walks.cnt (a3 + 1) a4 = walks.cnt a3 a4 + 1) := by
      have := walks.cnt_next a3 a4 (by omega)
      rw [if_pos hz] at this
      exact (show walks.cnt (a3 + 1) a4 = _ by omega)
    have hz' : (a3 % a4 == 0) = true := beq_iff_eq.2 hz
    have hp4 : 0 < a4 := by omega
    have hl3 : a3 < 4294967295 := by omega
    clear hz hm hk
    go_enter Try.func4, Try.ntmps4
    go_wp2_with fail
    refine (walks.zzBytes7 a0 a1 a2 a3 a4 w0 w1 _).mono ?_
    rintro e w' ⟨⟨b, rfl⟩, rfl⟩
    unfold maxLen at w0 w1
    cases b
    · go_wp2
      go_ret; exact ⟨rfl, Grown.refl _⟩
    go_wp2_with fail
    refine (walks.zzChecksums a0 a1 a2 a3 a4 (by omega) (by omega) (by omega) (by omega) _).mono ?_
    rintro e w1' ⟨rfl, hg1⟩
    go_wp2_with fail
    refine (walks.zzChecksums a0 a1 a2 (a3 + 1) a4 (by omega) (by omega) (by omega) (by omega) _).mono ?_
    rintro e w2' ⟨he, hg2⟩
    rw [hnext.out] at he
    subst he
    go_wp2
    go_ret
    exact ⟨walks.ret_bool (by first | rfl | (rw [beq_iff_eq]; omega)), walks.grown_trans hg1 hg2⟩
  · have hnext : Hid (walks.cnt (a3 + 1) a4 = walks.cnt a3 a4) := by
      have := walks.cnt_next a3 a4 (by omega)
      rw [if_neg hz] at this
      exact (show walks.cnt (a3 + 1) a4 = _ by omega)
    have hz' : (a3 % a4 == 0) = false := beq_eq_false_iff_ne.2 hz
    have hp4 : 0 < a4 := by omega
    have hl3 : a3 < 4294967295 := by omega
    clear hz hm hk
    go_enter Try.func4, Try.ntmps4
    go_wp2_with fail
    refine (walks.zzBytes7 a0 a1 a2 a3 a4 w0 w1 _).mono ?_
    rintro e w' ⟨⟨b, rfl⟩, rfl⟩
    unfold maxLen at w0 w1
    cases b
    · go_wp2
      go_ret; exact ⟨rfl, Grown.refl _⟩
    go_wp2_with fail
    refine (walks.zzChecksums a0 a1 a2 a3 a4 (by omega) (by omega) (by omega) (by omega) _).mono ?_
    rintro e w1' ⟨rfl, hg1⟩
    go_wp2_with fail
    refine (walks.zzChecksums a0 a1 a2 (a3 + 1) a4 (by omega) (by omega) (by omega) (by omega) _).mono ?_
    rintro e w2' ⟨he, hg2⟩
    rw [hnext.out] at he
    subst he
    go_wp2
    go_ret
    exact ⟨walks.ret_bool (by first | rfl | (rw [beq_iff_eq]; omega)), walks.grown_trans hg1 hg2⟩

/-! ### THE ROW's STEP: WRITTEN OUT: LEAVE IT -/
set_option maxRecDepth 100000 in
theorem lifted (os : Os) (started : os.Started) (H : Type) (enc : TypeId × Value → H) :
    ReturnsInHanded {} Try.checked os 4 .any (Rows.fnChecksumsGrowsByOneAtChunkStartSpec.pre6 enc Try.prog Try.f4 Rows.fnChecksumsGrowsByOneAtChunkStartRow.domain false) (Rows.fnChecksumsGrowsByOneAtChunkStartSpec.post enc Try.prog Try.f4 false true false false) := by
  refine returnsInHanded_of_change (C := Try.checked) own started (by kernel_rfl) Try.func4
    (ChangeSpec.witness6 (enc := enc) (C := Try.checked) false ⟨#[], #[.string ByteArray.empty, .string ByteArray.empty, .int .u64 0, .int .u32 0, .int .u32 0], []⟩ 8 (by kernel_rfl) (by kernel_rfl) (by kernel_rfl) (by kernel_rfl)) ?_
  intro W base args ds gs before hval0 hW hcnd _
  have hval : ∀ (j : Nat) t v, Try.f4.params[j]? = some t → args[j]? = some v → Value.okWide Try.prog W .any base t v := hval0
  have hW' := hW
  obtain ⟨p, q, hA0, hV, rfl, hfz, hnd⟩ := hW
  have hA : DataW.TrodAll enc Try.prog W 0 (fun _ => true) true Try.f4.params.toList args.toList ds p := hA0
  rw [Try.params4] at hA hval
  obtain ⟨v0, vs0, d0, ds0, p0, q0, hargs, rfl, rfl, h0, r0⟩ := trodAll_cons hA
  obtain ⟨v1, vs1, d1, ds1, p1, q1, rfl, rfl, rfl, h1, r1⟩ := trodAll_cons r0
  obtain ⟨v2, vs2, d2, ds2, p2, q2, rfl, rfl, rfl, h2, r2⟩ := trodAll_cons r1
  obtain ⟨v3, vs3, d3, ds3, p3, q3, rfl, rfl, rfl, h3, r3⟩ := trodAll_cons r2
  obtain ⟨v4, vs4, d4, ds4, p4, q4, rfl, rfl, rfl, h4, r4⟩ := trodAll_cons r3
  obtain ⟨rfl, rfl, rfl⟩ := trodAll_nil r4
  obtain rfl : args = #[v0, v1, v2, v3, v4] := by cases args; simp_all
  obtain ⟨rfl, rfl⟩ := trodVars_none hV
  obtain ⟨a0, rfl, rfl, rfl, w0⟩ := open_string Try.underlying9 (hval 0 9 v0 rfl rfl) h0
  obtain ⟨a1, rfl, rfl, rfl, w1⟩ := open_string Try.underlying9 (hval 1 9 v1 rfl rfl) h1
  obtain ⟨a2, rfl, rfl, rfl, w2⟩ := open_int Try.underlying22 (hval 2 22 v2 rfl rfl) h2
  obtain ⟨a3, rfl, rfl, rfl, w3⟩ := open_int Try.underlying23 (hval 3 23 v3 rfl rfl) h3
  obtain ⟨a4, rfl, rfl, rfl, w4⟩ := open_int Try.underlying23 (hval 4 23 v4 rfl rfl) h4
  clear hA0 hval0
  simp only [List.append_nil] at hW'
  refine (walk a0 a1 a2 a3 a4 w0 w1 w2 w3 w4 W).mono fun e W' ⟨he, hg⟩ => ?_
  subst he
  exact ⟨_, rfl, post_of_same (pa := []) (pv := []) hW' (fun _ _ _ => (trodAll_cons_mk (shut_bool Try.underlying4 _) trodAll_mk0)) (fun sp _ => (trodAll_cons_mk (shut_string Try.underlying9 w0) (trodAll_cons_mk (shut_string Try.underlying9 w1) (trodAll_cons_mk (shut_int Try.underlying22 w2) (trodAll_cons_mk (shut_int Try.underlying23 w3) (trodAll_cons_mk (shut_int Try.underlying23 w4) trodAll_mk0)))))) (fun _ _ => rfl) rfl
    (hg.frame _) hg.2.1 (ok_one (by kernel_rfl) rfl (okWide_bool_mk Try.underlying4 _))⟩

theorem over : Rows.fnChecksumsGrowsByOneAtChunkStartRow.holds Try.pinned (OpenSpec.ofChange Rows.fnChecksumsGrowsByOneAtChunkStartSpec) :=
  OpenClaim.holds_of_wide 4 Try.f4 rfl rfl rfl rfl rfl rfl rfl ⟨rfl, rfl, rfl, rfl, rfl⟩ rfl rfl rfl rfl rfl (by kernel_rfl) Try.func4 (by kernel_rfl)
    (of_decide_eq_true (by kernel_rfl)) (by unfold Func.isWrapper; first | (rw [if_pos (by decide +kernel)]; kernel_rfl) | (rw [if_neg (by decide +kernel)]; exact ⟨rfl, rfl⟩))
    (fun os started H enc _ => lifted os started H enc)

/-- ████ THE STATEMENT ████ -/
theorem proved : Rows.FnChecksumsGrowsByOneAtChunkStartSaid :=
  over
end Go.Proofs.Qxb6613103a.fnChecksumsGrowsByOneAtChunkStart
