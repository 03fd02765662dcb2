import Derived.Test.Qxb6609531aPlaceArgs
namespace Go.Proofs.Qxb6609531a.stepArgs
open Go.RowKit take items kept values
open placeArgs (IsBool IsInt)

/-- what the walk is told of a slice of steps that came in -/
def IsSt (w : World) (a : Option Addr) (len : Nat) (T : Nat → Bool) (H I A : Nat → Int) (K : Nat → ByteArray) : Prop :=
  len ≤ 9223372036854775807 ∧ (0 < len → ∃ b off, a = some ⟨b, off, none⟩ ∧ ∀ i, i < len → w.cell? ⟨b, off + i * 5, none⟩ = some (.bool (T i)) ∧ w.cell? ⟨b, off + i * 5 + 1, none⟩ = some (.int .i64 (H i)) ∧ w.cell? ⟨b, off + i * 5 + 2, none⟩ = some (.string (K i)) ∧ w.cell? ⟨b, off + i * 5 + 3, none⟩ = some (.int .i64 (I i)) ∧ w.cell? ⟨b, off + i * 5 + 4, none⟩ = some (.int .i64 (A i)) ∧ (K i).size ≤ maxLen)

set_option maxHeartbeats 1000000 in
theorem zzBytes (first : Int) (a : Option Addr) (len cap : Nat) (T : Nat → Bool) (H I A : Nat → Int) (K : Nat → ByteArray) (w : World) (ha : IsSt w a len T H I A K) :
    Calls Try.prog 16 #[.int .i64 first, .slice a len cap] w fun e w' => IsBool e ∧ w' = w := by
  obtain ⟨hl, ha⟩ := ha
  by_cases hb : (1048576 : Int) < len
  · clear ha
    go_enter Try.func16, Try.ntmps16
    go_wp2
    go_ret
    exact ⟨⟨_, rfl⟩, rfl⟩
  have hb' : (len : Int) ≤ 1048576 := by omega
  go_enter Try.func16, Try.ntmps16
  go_wp2
  go_loop [5, 6] (fun z i => ∃ (k : Nat) (y : Int), k ≤ len ∧ i = .int .i64 k ∧ z = .int .i64 y) (fun _ i => len - (intOf i).toNat)
  case atStart => exact ⟨0, _, Nat.zero_le _, rfl, rfl⟩
  case round =>
    obtain ⟨k, y, hk, rfl, rfl⟩ := hrel
    by_cases hlt : k < len
    · have hlt' : (k : Int) < len := by omega
      obtain ⟨b, off, rfl, hc⟩ := ha (by omega)
      obtain ⟨_, _, h1, _, _, hs⟩ := hc k hlt
      clear hc ha
      unfold maxLen at hs
      go_wp2
      all_goals first
        | (go_ret; exact ⟨⟨_, rfl⟩, rfl⟩)
        | skip
      all_goals
        go_round
        case rel => exact ⟨k + 1, _, by omega, by go_num, rfl⟩
        case measure => simp [intOf]; omega
    · go_wp2
      go_ret
      exact ⟨⟨_, rfl⟩, rfl⟩

set_option maxHeartbeats 1000000 in
theorem zzStepBytes (a : Option Addr) (len cap : Nat) (T : Nat → Bool) (H I A : Nat → Int) (K : Nat → ByteArray) (w : World) (hb : len ≤ 65536) (ha : IsSt w a len T H I A K) :
    Calls Try.prog 17 #[.slice a len cap] w fun e w' => IsInt e ∧ w' = w := by
  obtain ⟨hl, ha⟩ := ha
  have hb' : (len : Int) ≤ 65536 := by omega
  go_enter Try.func17, Try.ntmps17
  go_wp2
  go_loop [3, 4] (fun z i => ∃ (k : Nat) (y : Int), k ≤ len ∧ i = .int .i64 k ∧ z = .int .i64 y) (fun _ i => len - (intOf i).toNat)
  case atStart => exact ⟨0, _, Nat.zero_le _, rfl, rfl⟩
  case round =>
    obtain ⟨k, y, hk, rfl, rfl⟩ := hrel
    by_cases hlt : k < len
    · have hlt' : (k : Int) < len := by omega
      obtain ⟨b, off, rfl, hc⟩ := ha (by omega)
      obtain ⟨_, _, h1, _, _, hs⟩ := hc k hlt
      clear hc ha
      unfold maxLen at hs
      go_wp2
      all_goals first
        | (go_ret; exact ⟨⟨_, rfl⟩, rfl⟩)
        | skip
      all_goals
        go_round
        case rel => exact ⟨k + 1, _, by omega, by go_num, rfl⟩
        case measure => simp [intOf]; omega
    · go_wp2
      go_ret
      exact ⟨⟨_, rfl⟩, rfl⟩
end Go.Proofs.Qxb6609531a.stepArgs
