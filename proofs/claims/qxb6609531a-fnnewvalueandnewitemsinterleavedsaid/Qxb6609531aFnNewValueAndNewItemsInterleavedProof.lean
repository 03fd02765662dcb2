/-
  THE PROOF OF 'Rows.FnNewValueAndNewItemsInterleavedSaid': the guide's frame at this function's number and types; the walk: Qxb6609531aStepLaw; the slice that came in: Qxb6609531aOpenSt.
-/
import Derived.Test.Qxb6609531aRows
import Derived.Test.Qxb6609531aStepLaw
import Derived.Test.Qxb6609531aOpenSt
import Derived.WalkKit
import Derived.ProofKit
import Derived.OpenShut
import Derived.ShutString
import Derived.ChangeOld
import Derived.Below
namespace Go.Proofs.Qxb6609531a.fnNewValueAndNewItemsInterleaved
open Go.ChangeShapes Go.WideShapes Go.ChangeAt Go.RowKit
open Go.ChangeMaps (open_string shut_string)
open stepArgs
set_option linter.unusedVariables false

theorem own : ownKnob Try.prog.godebug = none := by kernel_rfl
theorem laidOut : laidOutB Try.prog = true := by kernel_rfl

set_option maxRecDepth 100000 in
set_option maxHeartbeats 400000 in
theorem long (first : Int) (a : Option Addr) (len cap : Nat) (T : Nat → Bool) (H I A : Nat → Int) (K : Nat → ByteArray) (hlen : 4096 < len) (w : World) (ha : IsSt w a len T H I A K) :
    Calls Try.prog 5 #[.int .i64 first, .slice a len cap] w fun e w' => e = .returned (.bool true) ∧ w' = w := by
  have hlen' : (4096 : Int) < len := by omega
  go_enter Try.func5, Try.ntmps5
  go_wp2_with fail
  refine (zzBytes first a len cap T H I A K w ha).mono ?_
  rintro e w' ⟨⟨b, rfl⟩, rfl⟩
  cases b <;> go_wp2 <;> (go_ret; exact ⟨rfl, rfl⟩)

set_option maxRecDepth 100000 in
set_option maxHeartbeats 400000 in
theorem out (first : Int) (a : Option Addr) (len cap : Nat) (T : Nat → Bool) (H I A : Nat → Int) (K : Nat → ByteArray) (hlen : len ≤ 4096) (hf : first < 0 ∨ 512 < first) (w : World) (ha : IsSt w a len T H I A K) :
    Calls Try.prog 5 #[.int .i64 first, .slice a len cap] w fun e w' => e = .returned (.bool true) ∧ w' = w := by
  have hlen' : (len : Int) ≤ 4096 := by omega
  rcases hf with hf | hf <;>
  · go_enter Try.func5, Try.ntmps5
    go_wp2_with fail
    refine (zzBytes first a len cap T H I A K w ha).mono ?_
    rintro e w' ⟨⟨b, rfl⟩, rfl⟩
    cases b
    · go_wp2
      go_ret
      exact ⟨rfl, rfl⟩
    go_wp2_with fail
    refine (zzStepBytes a len cap T H I A K _ (by omega) ha).mono ?_
    rintro e w'' ⟨⟨z, rfl⟩, rfl⟩
    by_cases hz : 1048576 < z <;> go_wp2 <;> (go_ret; exact ⟨rfl, rfl⟩)

theorem walk (first : Int) (a : Option Addr) (len cap : Nat) (T : Nat → Bool) (H I A : Nat → Int) (K : Nat → ByteArray) (w : World) (ha : IsSt w a len T H I A K) :
    Calls Try.prog 5 #[.int .i64 first, .slice a len cap] w fun e w' => e = .returned (.bool true) ∧ Below w.heap.size w w' := by
  by_cases hlen : 4096 < len
  · refine (long first a len cap T H I A K hlen w ha).mono ?_
    rintro e w' ⟨rfl, rfl⟩
    exact ⟨rfl, Below.refl _ _⟩
  · by_cases hf : first < 0 ∨ 512 < first
    · refine (out first a len cap T H I A K (by omega) hf w ha).mono ?_
      rintro e w' ⟨rfl, rfl⟩
      exact ⟨rfl, Below.refl _ _⟩
    · exact stepLaw.main first a len cap T H I A K (by omega) (by omega) (by omega) w ha

set_option maxRecDepth 100000 in
theorem lifted (os : Os) (started : os.Started) (H : Type) (enc : TypeId × Value → H) :
    ReturnsInHanded {} Try.checked os 5 .any (Rows.fnNewValueAndNewItemsInterleavedSpec.pre6 enc Try.prog Try.f5 Rows.fnNewValueAndNewItemsInterleavedRow.domain false) (Rows.fnNewValueAndNewItemsInterleavedSpec.post enc Try.prog Try.f5 false true false false) := by
  refine returnsInHanded_of_change (C := Try.checked) own started (by kernel_rfl) Try.func5
    (ChangeSpec.witness6 (enc := enc) (C := Try.checked) false ⟨#[], #[.int .i64 0, .slice none 0 0], []⟩ 8 (by kernel_rfl) (by kernel_rfl) (by kernel_rfl) (by kernel_rfl)) ?_
  intro W base args ds gs before hval0 hW hcnd _
  have hval : ∀ (j : Nat) t v, Try.f5.params[j]? = some t → args[j]? = some v → Value.okWide Try.prog W .any base t v := hval0
  have hW' := hW
  obtain ⟨p, q, hA0, hV, rfl, hfz, hnd⟩ := hW
  have hA : DataW.TrodAll enc Try.prog W 0 (fun _ => true) true Try.f5.params.toList args.toList ds p := hA0
  rw [Try.params5] at hA hval
  obtain ⟨v0, vs0, d0, ds0, p0, q0, hargs, rfl, rfl, h0, r0⟩ := trodAll_cons hA
  obtain ⟨v1, vs1, d1, ds1, p1, q1, rfl, rfl, rfl, h1, r1⟩ := trodAll_cons r0
  obtain ⟨rfl, rfl, rfl⟩ := trodAll_nil r1
  obtain rfl : args = #[v0, v1] := by cases args; simp_all
  obtain ⟨rfl, rfl⟩ := trodVars_none hV
  obtain ⟨a0, rfl, rfl, rfl, w0⟩ := open_int Try.underlying3 (hval 0 3 v0 rfl rfl) h0
  obtain ⟨a1, len1, cap1, rfl⟩ := okWide_slice Try.underlying44 (hval 1 44 v1 rfl rfl)
  have k1 := h1
  have lt1 : ∀ x ∈ p1, x.block < W.heap.size := by obtain ⟨m, hm⟩ := k1; exact DataW.trod_lt m _ _ _ hm
  obtain ⟨Tf, Hf, If, Af, Kf, w1⟩ : ∃ Tf Hf If Af Kf, IsSt W a1 len1 Tf Hf If Af Kf := by
    obtain ⟨fuel, hf⟩ := h1
    exact openSt.open_steps hf
  clear hA0 hval0
  refine (walk a0 a1 len1 cap1 Tf Hf If Af Kf W w1).mono fun e W' ⟨he, bel⟩ => ?_
  subst he
  exact ⟨_, rfl, _, _, _, [], _, [], hW', trodAll_mk1 (shut_bool Try.underlying4 _), (trodAll_cons_mk (shut_int Try.underlying3 w0) (trodAll_cons_mk (Below.trod laidOut (by kernel_rfl) (of_decide_eq_true (by kernel_rfl)) k1 bel lt1) trodAll_mk0)), rfl, bel.frame _, fun h => by cases h⟩

theorem over : Rows.fnNewValueAndNewItemsInterleavedRow.holds Try.pinned (OpenSpec.ofChange Rows.fnNewValueAndNewItemsInterleavedSpec) :=
  OpenClaim.holds_of_wide 5 Try.f5 rfl rfl rfl rfl rfl rfl rfl ⟨rfl, rfl, rfl, rfl, rfl⟩ rfl rfl rfl rfl rfl (by kernel_rfl) Try.func5 (by kernel_rfl)
    (of_decide_eq_true (by kernel_rfl)) (by unfold Func.isWrapper; first | (rw [if_pos (by decide +kernel)]; kernel_rfl) | (rw [if_neg (by decide +kernel)]; exact ⟨rfl, rfl⟩))
    (fun os started H enc _ => lifted os started H enc)

theorem proved : Rows.FnNewValueAndNewItemsInterleavedSaid := over
end Go.Proofs.Qxb6609531a.fnNewValueAndNewItemsInterleaved
