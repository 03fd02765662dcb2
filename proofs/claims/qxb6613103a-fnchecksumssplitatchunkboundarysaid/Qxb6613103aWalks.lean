import Derived.Test.Qxb6613103aRows
import Derived.WalkKit
import Derived.WalkSpells
import Derived.ProofKit
import Derived.Deep.QuietTactic
import Derived.BigQuiet
namespace Go.Proofs.Qxb6613103a.walks
open Go.RowKit

/-! ### The plain law: how many checksums a request asks for -/
def cnt (s c : Int) : Int := (s + c - 1) / c

theorem cnt_bounds (s c : Int) (hs0 : 0 ≤ s) (hc0 : 0 < c) : 0 ≤ cnt s c ∧ cnt s c ≤ s := by
  unfold cnt
  refine ⟨Int.ediv_nonneg (by omega) (by omega), ?_⟩
  apply Int.le_of_lt_add_one
  apply Int.ediv_lt_of_lt_mul hc0
  have h : s * 1 ≤ s * c := Int.mul_le_mul_of_nonneg_left (by omega) hs0
  rw [Int.add_mul, Int.one_mul]
  omega

theorem cnt_mul (k c : Int) (hc0 : 0 < c) : cnt (k * c) c = k := by
  unfold cnt
  rw [show k * c + c - 1 = (c - 1) + k * c from by omega, Int.add_mul_ediv_right _ _ (by omega), Int.ediv_eq_zero_of_lt (by omega) (by omega)]
  omega

theorem cnt_split (k s c : Int) (hc0 : 0 < c) : cnt s c = k + cnt (s - k * c) c := by
  unfold cnt
  rw [show s + c - 1 = (s - k * c + c - 1) + k * c from by omega, Int.add_mul_ediv_right _ _ (by omega)]
  omega

theorem cnt_next (s c : Int) (hc0 : 0 < c) : cnt (s + 1) c - cnt s c = if s % c = 0 then 1 else 0 := by
  unfold cnt
  have e1 : (s + 1 + c - 1) / c = s / c + 1 := by
    rw [show s + 1 + c - 1 = s + 1 * c from by omega, Int.add_mul_ediv_right _ _ (by omega)]
  have hd := Int.mul_ediv_add_emod s c
  have hm0 := Int.emod_nonneg s (show c ≠ 0 by omega)
  have hm1 := Int.emod_lt_of_pos s hc0
  have e2 : (s + c - 1) / c = (s % c + c - 1) / c + s / c := by
    rw [← Int.add_mul_ediv_right _ _ (show c ≠ 0 by omega), Int.mul_comm]
    congr 1; omega
  rw [e1, e2]
  split
  · rename_i h
    have h0 : (0 + c - 1) / c = 0 := Int.ediv_eq_zero_of_lt (by omega) (by omega)
    rw [h, h0]; omega
  · rename_i h
    have : (s % c + c - 1) / c = 1 := by
      rw [show s % c + c - 1 = (s % c - 1) + 1 * c from by omega, Int.add_mul_ediv_right _ _ (by omega), Int.ediv_eq_zero_of_lt (by omega) (by omega)]
      omega
    rw [this]; omega

theorem wrap64_cnt (s c : Int) (hs0 : 0 ≤ s) (hs1 : s < 4294967296) (hc0 : 0 < c) : wrap64 (cnt s c) = cnt s c := by
  have := cnt_bounds s c hs0 hc0
  unfold wrap64
  omega

theorem ret_int {k : IntKind} {a b : Int} (h : a = b) : Ending.returned (.int k a) = .returned (.int k b) := by rw [h]

theorem ret_bool {b : Bool} (h : b = true) : Ending.returned (.bool b) = .returned (.bool true) := by rw [h]

theorem grown_drewN {W w : World} (h : Grown W w) (n : Nat) : Grown W (w.drewN n) := h

theorem grown_trans {A B C : World} (h : Grown A B) (k : Grown B C) : Grown A C :=
  ⟨World.keptBut_trans h.1 (World.keptBut_mono (fun _ f => f.elim) k.1), fun a => (k.2.1 a).trans (h.2.1 a), Nat.le_trans h.2.2 k.2.2⟩

/-! ### The walks -/
set_option maxHeartbeats 400000 in
theorem checksums (s c : Int) (b : Nat) (hs0 : 0 ≤ s) (hs1 : s < 4294967296) (hc0 : 0 < c) (hc1 : c < 4294967296) (w : World)
    (h0 : w.cell? ⟨b, 3, none⟩ = some (.int .u32 s)) (h1 : w.cell? ⟨b, 4, none⟩ = some (.int .u32 c)) :
    Calls Try.prog 8 #[.pointer (some ⟨b, 0, none⟩)] w fun e w' => e = .returned (.int .i64 (cnt s c)) ∧ ∃ k, w' = w.drewN k := by
  go_enter Try.func8, Try.ntmps8
  go_wp2
  go_quiet (fail)
  go_wp2
  go_ret
  exact ⟨ret_int (wrap64_cnt s c hs0 hs1 hc0), _, rfl⟩

set_option maxHeartbeats 400000 in
theorem zzChecksums (f n : ByteArray) (o s c : Int) (hs0 : 0 ≤ s) (hs1 : s < 4294967296) (hc0 : 0 < c) (hc1 : c < 4294967296) (w : World) :
    Calls Try.prog 6 #[.string f, .string n, .int .u64 o, .int .u32 s, .int .u32 c] w fun e w' => e = .returned (.int .i64 (cnt s c)) ∧ Grown w w' := by
  go_enter Try.func6, Try.ntmps6
  go_wp2_with fail
  refine (checksums s c _ hs0 hs1 hc0 hc1 _ (by simp [go_sem]) (by simp [go_sem])).mono ?_
  rintro e w' ⟨rfl, k, rfl⟩
  go_wp2
  go_ret
  exact ⟨rfl, grown_drewN ((Grown.refl _).alloc _ _) _⟩

set_option maxHeartbeats 400000 in
theorem zzBytes5 (f n : ByteArray) (o s c k : Int) (hf : f.size ≤ maxLen) (hn : n.size ≤ maxLen) (w : World) :
    Calls Try.prog 5 #[.string f, .string n, .int .u64 o, .int .u32 s, .int .u32 c, .int .u32 k] w fun e w' => (∃ b, e = .returned (.bool b)) ∧ w' = w := by
  unfold maxLen at hf hn
  go_enter Try.func5, Try.ntmps5
  go_wp2
  all_goals (go_ret; exact ⟨⟨_, rfl⟩, rfl⟩)

set_option maxHeartbeats 400000 in
theorem zzBytes7 (f n : ByteArray) (o s c : Int) (hf : f.size ≤ maxLen) (hn : n.size ≤ maxLen) (w : World) :
    Calls Try.prog 7 #[.string f, .string n, .int .u64 o, .int .u32 s, .int .u32 c] w fun e w' => (∃ b, e = .returned (.bool b)) ∧ w' = w := by
  unfold maxLen at hf hn
  go_enter Try.func7, Try.ntmps7
  go_wp2
  all_goals (go_ret; exact ⟨⟨_, rfl⟩, rfl⟩)
end Go.Proofs.Qxb6613103a.walks
