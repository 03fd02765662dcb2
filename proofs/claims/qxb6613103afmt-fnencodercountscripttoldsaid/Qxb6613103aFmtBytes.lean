import Derived.Test.Qxb6613103aFmtFacts
import Derived.Laws.CopyOwn
import Derived.Deep.OwnRows
import Derived.Deep.QuietTactic
import Derived.BigQuiet
import Derived.WalkLawsBesides
import Derived.Lib.EndianBits
namespace Go.Proofs.Qxb6613103aFmt.bytes
open Go.Extern.Stop Go.Stop Go.Extern Go.RowKit

theorem info5 : (Tryf.prog.info? 5).map (fun i => (i.zero, i.size, i.bytes)) = some (some (Value.int IntKind.u8 0), 1, 1) := by kernel_rfl
theorem size5 : (Tryf.prog.info? 5).map (·.size) = some 1 := by kernel_rfl

/-- n bytes lie from address x on -/
def Lies (w : World) (x : Addr) (zs : List Int) : Prop := ∀ i, i < zs.length → w.cell? (x.add i) = some (.int .u8 (zs.getD i 0))

def vals (zs : List Int) : List Value := zs.map (Value.int .u8)

set_option maxHeartbeats 400000 in
theorem clone_nil (w : World) : Calls Tryf.prog 5 #[.slice none 0 0] w fun e w' => e = .returned (.slice none 0 0) ∧ w' = w := by
  have hnil : ∀ (w : World) (a : Option Addr) (n c n' c' : Nat), (binOp .eql 22 (.slice a n c) (.slice none n' c')).run Tryf.prog w = .ok (.bool a.isNone) w := fun w a n c n' c' => Lib.run_eql_slice_nil w _ _ a n c n' c' Tryf.underlying22
  go_enter Tryf.func5, Tryf.ntmps5
  go_wp2
  go_ret
  exact ⟨rfl, rfl⟩

set_option maxHeartbeats 1000000 in
theorem clone_some (x : Addr) (len cap : Nat) (zs : List Int) (hl : zs.length = len) (hlen : len ≤ 65536) (w : World) (hz : Lies w x zs) :
    Calls Tryf.prog 5 #[.slice (some x) len cap] w fun e w' => e = .returned (.slice (some ⟨w.heap.size, 0, none⟩) len len) ∧
      w'.heap[w.heap.size]? = some (.cells (vals zs).toArray 5 (0, 0)) ∧ w'.heap.size = w.heap.size + 1 ∧ Below w.heap.size w w' := by
  have hnil : ∀ (w : World) (a : Option Addr) (n c n' c' : Nat), (binOp .eql 22 (.slice a n c) (.slice none n' c')).run Tryf.prog w = .ok (.bool a.isNone) w := fun w a n c n' c' => Lib.run_eql_slice_nil w _ _ a n c n' c' Tryf.underlying22
  have hmk := run_make_row' (P := Tryf.prog) 22 5 (.int .u8 0) 1 Tryf.underlying22 info5 rfl .i64 .i64 len (by omega) (by omega)
  have hlv : (vals zs).length = len := by simp [vals, hl]
  obtain ⟨w1, hcp, H1⟩ : ∃ w1, (Builtin.copy_ #[22, 22] 3 #[.slice (some ⟨w.heap.size, 0, none⟩) len len, .slice (some x) len cap]).run Tryf.prog (w.alloc (.cells (madeCells #[.int .u8 0] len) 5)) = .ok (goInt len) w1 ∧
      Hid (w1.heap[w.heap.size]? = some (.cells (vals zs).toArray 5 (0, 0)) ∧ w1.heap.size = w.heap.size + 1 ∧ Below w.heap.size w w1) := by
    have hsrc : ∀ j v, (vals zs)[j]? = some v → (w.alloc (.cells (madeCells #[.int .u8 0] len) 5)).cell? (x.add j) = some v := by
      intro j v hj
      simp only [vals, List.getElem?_map] at hj
      obtain ⟨z, hz1, rfl⟩ := Option.map_eq_some_iff.1 hj
      have hjl : j < zs.length := (List.getElem?_eq_some_iff.1 hz1).1
      have h := hz j hjl
      rw [List.getD, hz1] at h
      exact cell_later ((Below.refl _ w).alloc (Nat.le_refl _) _) h
    have hr := run_copy_row (P := Tryf.prog) (w.alloc (.cells (madeCells #[.int .u8 0] len) 5)) 22 22 3 5 w.heap.size 0 len len x len cap (madeCells #[.int .u8 0] len) 5 (vals zs) Tryf.underlying22 size5
      (heap_alloc_new w _) (by rw [hlv]; simp) hsrc (by rw [size_madeCells, hlv]; omega) (by intro v hv; simp only [vals, List.mem_map] at hv; obtain ⟨z, _, rfl⟩ := hv; rfl)
    rw [hlv] at hr
    refine ⟨_, hr, ?_, ?_, ?_⟩
    · rw [setRow_heap _ _ _ _ _ _ (heap_alloc_new w _)]
      have hd : (madeCells #[Value.int .u8 0] len).toList.drop (0 + len) = [] := by
        apply List.drop_of_length_le; simp [size_madeCells]
      rw [hd]; simp
    · simp [World.setRow]
    · exact below_setRow ((Below.refl _ w).alloc (Nat.le_refl _) _) (Nat.le_refl _) _
  go_enter Tryf.func5, Tryf.ntmps5
  go_wp2
  go_ret
  exact ⟨rfl, H1.out⟩

set_option maxHeartbeats 400000 in
theorem zzBytes (a0 : Option Addr) (len cap : Nat) (n1 m1 n2 m2 : Int) (hl : len ≤ 9223372036854775807) (w : World) :
    Calls Tryf.prog 4 #[.slice a0 len cap, .int .i64 n1, .int .i64 m1, .int .i64 n2, .int .i64 m2] w fun e w' => (∃ b, e = .returned (.bool b)) ∧ w' = w := by
  go_enter Tryf.func4, Tryf.ntmps4
  go_wp2
  all_goals (go_ret; exact ⟨⟨_, rfl⟩, rfl⟩)

set_option maxHeartbeats 400000 in
theorem newEncoder (a0 : Option Addr) (len cap : Nat) (w : World) :
    Calls Tryf.prog 6 #[.slice a0 len cap] w fun e w' => e = .returned (.pointer (some ⟨w.heap.size, 0, none⟩)) ∧ w' = w.alloc (.cells #[.slice a0 len cap, .nilIface] 36) := by
  go_enter Tryf.func6, Tryf.ntmps6
  go_wp2
  go_ret
  exact ⟨rfl, rfl⟩

theorem ret_int {k : IntKind} {a b : Int} (h : a = b) : Ending.returned (.int k a) = .returned (.int k b) := by rw [h]

theorem or_hi (i : Nat) (x y : Int) (hy0 : 0 ≤ y) (hy : y < 2 ^ i) (hy1 : y < 2 ^ 32) (hx0 : 0 ≤ x) (hx : x % 2 ^ i = 0) (hx1 : x < 2 ^ 32) : bits .or .u32 x y = x + y := by
  have hc : bits .or .u32 x y = bits .or .u32 y x := by simp only [bits, BitVec.or_comm]
  rw [hc, bits_join_low .u32 32 (by decide) wraps_u32 i y x hy0 hy hy1 hx0 hx hx1]
  omega

theorem word_sum (x0 x1 x2 x3 : Int) (b0 : 0 ≤ x0 ∧ x0 ≤ 255) (b1 : 0 ≤ x1 ∧ x1 ≤ 255) (b2 : 0 ≤ x2 ∧ x2 ≤ 255) (b3 : 0 ≤ x3 ∧ x3 ≤ 255) :
    bits .or .u32 (bits .or .u32 (bits .or .u32 (x0 * 16777216) (x1 * 65536)) (x2 * 256)) x3 = x0 * 16777216 + x1 * 65536 + x2 * 256 + x3 := by
  rw [or_hi 24 (x0 * 16777216) (x1 * 65536) (by omega) (by omega) (by omega) (by omega) (by omega) (by omega)]
  rw [or_hi 16 _ (x2 * 256) (by omega) (by omega) (by omega) (by omega) (by omega) (by omega)]
  rw [or_hi 8 _ x3 (by omega) (by omega) (by omega) (by omega) (by omega) (by omega)]

set_option maxHeartbeats 1000000 in
theorem word (g i ln cap : Nat) (x0 x1 x2 x3 : Int) (hi : i + 4 ≤ ln) (hln : ln ≤ 1000000) (b0 : 0 ≤ x0 ∧ x0 ≤ 255) (b1 : 0 ≤ x1 ∧ x1 ≤ 255) (b2 : 0 ≤ x2 ∧ x2 ≤ 255) (b3 : 0 ≤ x3 ∧ x3 ≤ 255) (w : World)
    (h0 : w.cell? ⟨g, i, none⟩ = some (.int .u8 x0)) (h1 : w.cell? ⟨g, i + 1, none⟩ = some (.int .u8 x1)) (h2 : w.cell? ⟨g, i + 2, none⟩ = some (.int .u8 x2)) (h3 : w.cell? ⟨g, i + 3, none⟩ = some (.int .u8 x3)) :
    Calls Tryf.prog 10 #[.slice (some ⟨g, 0, none⟩) ln cap, .int .i64 i] w fun e w' => e = .returned (.int .u32 (x0 * 16777216 + x1 * 65536 + x2 * 256 + x3)) ∧ ∃ k, w' = w.drewN k := by
  go_enter Tryf.func10, Tryf.ntmps10
  go_wp2
  go_quiet (fail)
  go_wp2
  go_ret
  exact ⟨ret_int (word_sum x0 x1 x2 x3 b0 b1 b2 b3), _, rfl⟩

set_option maxHeartbeats 400000 in
theorem same_none (x y : Option Addr) (cap cap' : Nat) (w : World) :
    Calls Tryf.prog 9 #[.slice x 0 cap, .slice y 0 cap'] w fun e w' => e = .returned (.bool true) ∧ ∃ k, w' = w.drewN k := by
  go_enter Tryf.func9, Tryf.ntmps9
  go_wp2
  go_loop [5] (fun i => i = .int .i64 0) (fun _ => 0)
  case atStart => rfl
  case round =>
    subst hrel
    go_wp2
    go_ret
    exact ⟨rfl, 0, rfl⟩

set_option maxHeartbeats 1000000 in
theorem same_any (x y : Addr) (ln cap cap' : Nat) (zs : List Int) (hl : zs.length = ln) (hln : ln ≤ 65536) (w : World) (hx : Lies w x zs) (hy : Lies w y zs) :
    Calls Tryf.prog 9 #[.slice (some x) ln cap, .slice (some y) ln cap'] w fun e w' => e = .returned (.bool true) ∧ ∃ k, w' = w.drewN k := by
  go_enter Tryf.func9, Tryf.ntmps9
  go_wp2
  go_loopw [5] (fun i wr => ∃ k n : Nat, k ≤ ln ∧ i = .int .i64 k ∧ wr = w.drewN n) (fun i _ => ln - (intOf i).toNat)
  case atStart => exact ⟨0, 0, Nat.zero_le _, rfl, rfl⟩
  case round =>
    obtain ⟨k, n, hk, rfl, rfl⟩ := hrel
    by_cases hlt : k < ln
    · obtain ⟨v, hv⟩ : ∃ v, v = zs.getD k 0 := ⟨_, rfl⟩
      have hcx := hx k (by omega)
      have hcy := hy k (by omega)
      rw [← hv] at hcx hcy
      clear hv
      go_wp2
      go_quiet (fail)
      go_wp2
      go_roundw
      case rel => exact ⟨k + 1, _, by omega, by go_num, rfl⟩
      case measure => simp [intOf]; omega
    · go_wp2
      go_ret
      exact ⟨rfl, _, rfl⟩
theorem same_row (y : Addr) (a0 : Option Addr) (ln cap cap' : Nat) (zs : List Int) (hl : zs.length = ln) (hln : ln ≤ 65536) (w : World) (hy : Lies w y zs) (hz : ∀ x, a0 = some x → Lies w x zs) (hnone : a0 = none → ln = 0) :
    Calls Tryf.prog 9 #[.slice (some y) ln cap, .slice a0 ln cap'] w fun e w' => e = .returned (.bool true) ∧ ∃ k, w' = w.drewN k := by
  cases a0 with
  | none =>
    obtain rfl := hnone rfl
    exact same_none _ _ _ _ _
  | some x => exact same_any y x ln cap cap' zs hl hln w hy (hz x rfl)
end Go.Proofs.Qxb6613103aFmt.bytes
