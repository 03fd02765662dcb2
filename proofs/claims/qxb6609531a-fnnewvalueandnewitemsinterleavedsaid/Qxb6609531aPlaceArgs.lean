import Derived.Test.Qxb6609531aPlaced
namespace Go.Proofs.Qxb6609531a.placeArgs
open Go.RowKit take items kept values

def IsBool (e : Ending) : Prop := ∃ b, e = .returned (.bool b)
def IsInt (e : Ending) : Prop := ∃ z, e = .returned (.int .i64 z)

/-- what the walk is told of a slice of places that came in -/
def IsPl (w : World) (a : Option Addr) (len : Nat) (H I A : Nat → Int) (K : Nat → ByteArray) : Prop :=
  len ≤ 9223372036854775807 ∧ (0 < len → ∃ b off, a = some ⟨b, off, none⟩ ∧ ∀ i, i < len → w.cell? ⟨b, off + i * 4, none⟩ = some (.int .i64 (H i)) ∧ w.cell? ⟨b, off + i * 4 + 1, none⟩ = some (.string (K i)) ∧ w.cell? ⟨b, off + i * 4 + 2, none⟩ = some (.int .i64 (I i)) ∧ w.cell? ⟨b, off + i * 4 + 3, none⟩ = some (.int .i64 (A i)) ∧ (K i).size ≤ maxLen)

set_option maxHeartbeats 1000000 in
theorem zzBytes (first : Int) (a : Option Addr) (len cap : Nat) (H I A : Nat → Int) (K : Nat → ByteArray) (w : World) (ha : IsPl w a len H I A K) :
    Calls Try.prog 6 #[.int .i64 first, .slice a len cap] w fun e w' => IsBool e ∧ w' = w := by
  obtain ⟨hl, ha⟩ := ha
  by_cases hb : (1048576 : Int) < len
  · clear ha
    go_enter Try.func6, Try.ntmps6
    go_wp2
    go_ret
    exact ⟨⟨_, rfl⟩, rfl⟩
  have hb' : (len : Int) ≤ 1048576 := by omega
  go_enter Try.func6, Try.ntmps6
  go_wp2
  go_loop [5, 6] (fun z i => ∃ (k : Nat) (y : Int), k ≤ len ∧ i = .int .i64 k ∧ z = .int .i64 y) (fun _ i => len - (intOf i).toNat)
  case atStart => exact ⟨0, _, Nat.zero_le _, rfl, rfl⟩
  case round =>
    obtain ⟨k, y, hk, rfl, rfl⟩ := hrel
    by_cases hlt : k < len
    · have hlt' : (k : Int) < len := by omega
      obtain ⟨b, off, rfl, hc⟩ := ha (by omega)
      obtain ⟨_, h1, _, _, hs⟩ := hc k hlt
      clear hc ha
      unfold maxLen at hs
      go_wp2
      all_goals first
        | (go_ret; exact ⟨⟨_, rfl⟩, rfl⟩)
        | skip
      all_goals
        go_round
        case rel => exact ⟨k + 1, _, by omega, by go_num, rfl⟩
        case measure => simp [intOf]; omega
    · go_wp2
      go_ret
      exact ⟨⟨_, rfl⟩, rfl⟩

set_option maxHeartbeats 1000000 in
theorem zzPlaceBytes (a : Option Addr) (len cap : Nat) (H I A : Nat → Int) (K : Nat → ByteArray) (w : World) (hb : len ≤ 65536) (ha : IsPl w a len H I A K) :
    Calls Try.prog 7 #[.slice a len cap] w fun e w' => IsInt e ∧ w' = w := by
  obtain ⟨hl, ha⟩ := ha
  have hb' : (len : Int) ≤ 65536 := by omega
  go_enter Try.func7, Try.ntmps7
  go_wp2
  go_loop [3, 4] (fun z i => ∃ (k : Nat) (y : Int), k ≤ len ∧ i = .int .i64 k ∧ z = .int .i64 y) (fun _ i => len - (intOf i).toNat)
  case atStart => exact ⟨0, _, Nat.zero_le _, rfl, rfl⟩
  case round =>
    obtain ⟨k, y, hk, rfl, rfl⟩ := hrel
    by_cases hlt : k < len
    · have hlt' : (k : Int) < len := by omega
      obtain ⟨b, off, rfl, hc⟩ := ha (by omega)
      obtain ⟨_, h1, _, _, hs⟩ := hc k hlt
      clear hc ha
      unfold maxLen at hs
      go_wp2
      all_goals first
        | (go_ret; exact ⟨⟨_, rfl⟩, rfl⟩)
        | skip
      all_goals
        go_round
        case rel => exact ⟨k + 1, _, by omega, by go_num, rfl⟩
        case measure => simp [intOf]; omega
    · go_wp2
      go_ret
      exact ⟨⟨_, rfl⟩, rfl⟩
end Go.Proofs.Qxb6609531a.placeArgs
