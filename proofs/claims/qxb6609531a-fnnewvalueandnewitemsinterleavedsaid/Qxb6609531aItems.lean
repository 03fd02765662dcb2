import Derived.Test.Qxb6609531aTake
namespace Go.Proofs.Qxb6609531a.items
open Go.RowKit take

/-- the parser's cells: how many values, the first slab's size, the two slabs -/
def parr (values first : Int) (vs is : Value) : Array Value :=
  #[.string ⟨#[]⟩, .bool false, .int .i64 0, .int .i64 0, .slice none 0 0, .int .i64 values, .int .i64 first, vs, is, .slice none 0 0, .slice none 0 0, .slice none 0 0, .slice none 0 0, .slice none 0 0, .slice none 0 0]

set_option maxHeartbeats 400000 in
theorem newParser (first : Int) (w : World) :
    Calls Try.prog 8 #[.int .i64 first] w fun e w' => e = .returned (.pointer (some ⟨w.heap.size, 0, none⟩)) ∧ w' = w.alloc (.cells (parr 0 first (.slice none 0 0) (.slice none 0 0)) 62) := by
  go_enter Try.func8, Try.ntmps8
  go_wp2
  go_ret
  exact ⟨rfl, rfl⟩

set_option maxHeartbeats 400000 in
theorem zzValues (pb : Nat) (values first : Int) (vs is : Value) (w : World) (hpb : w.heap[pb]? = some (.cells (parr values first vs is) 62 (0, 0))) :
    Calls Try.prog 12 #[.pointer (some ⟨pb, 0, none⟩)] w fun e w' => e = .returned (.int .i64 values) ∧ w' = w := by
  have hc := cell_at hpb (o := 5) (v := .int .i64 values) rfl
  go_enter Try.func12, Try.ntmps12
  go_wp2
  go_ret
  exact ⟨rfl, rfl⟩

set_option maxHeartbeats 400000 in
theorem itemsParts (g o : Nat) (w : World) (h0 : w.cell? ⟨g, o, none⟩ = some (.slice none 0 0)) (h2 : w.cell? ⟨g, o + 2, none⟩ = some (.slice none 0 0)) :
    Calls Try.prog 15 #[.pointer (some ⟨g, o, none⟩)] w fun e w' => e = .returned (.tuple #[.slice none 0 0, .slice none 0 0]) ∧ ∃ d, w' = w.drewN d := by
  go_enter Try.func15, Try.ntmps15
  go_wp2
  go_quiet (fail)
  go_wp2
  go_ret2
  exact ⟨rfl, _, rfl⟩

theorem took_undrew {E sz : Nat} {z : Array Value} {pb k : Nat} {arr : Array Value} {s : Value} {w w' : World} {g n cap : Nat} {cur : Array Value} (h : Took E sz z pb k arr s w.drew w' g n cap cur) : Took E sz z pb k arr s w w' g n cap cur :=
  ⟨h.par, ⟨h.grown.os, h.grown.tape, h.grown.output, h.grown.size, h.grown.block⟩, h.blk, h.size, h.zero, h.lt, h.le, h.from_⟩

set_option maxHeartbeats 1000000 in
theorem newItems (pb : Nat) (values first : Int) (vs is : Value) (h0 : 0 ≤ first) (h1 : first ≤ 512) (w : World) (hpb : w.heap[pb]? = some (.cells (parr values first vs is) 62 (0, 0))) (hS : Slab 79 3 zI w is) :
    Calls Try.prog 20 #[.pointer (some ⟨pb, 0, none⟩)] w fun e w' => ∃ g n cap cur, e = .returned (.pointer (some ⟨g, n * 3, none⟩)) ∧ Took 79 3 zI pb 8 (parr values first vs is) is w w' g n cap cur := by
  have hc := cell_at hpb (o := 6) (v := .int .i64 first) rfl
  go_enter Try.func20, Try.ntmps20
  go_wp2
  go_region_with (go_at_call 22; refine (takeI pb 8 (parr values first vs is) is first h0 h1 _ ?_ rfl ?_).mono ?_; exact hpb; exact hS; rintro e w1 ⟨g, n, cap, cur, rfl, hT⟩)
  all_goals
    go_wp2
    go_ret
    exact ⟨g, n, cap, cur, rfl, took_undrew hT⟩

set_option maxHeartbeats 400000 in
theorem zzNewItems (pb : Nat) (values first : Int) (vs is : Value) (h0 : 0 ≤ first) (h1 : first ≤ 512) (w : World) (hpb : w.heap[pb]? = some (.cells (parr values first vs is) 62 (0, 0))) (hS : Slab 79 3 zI w is) :
    Calls Try.prog 14 #[.pointer (some ⟨pb, 0, none⟩)] w fun e w' => ∃ g n cap cur, e = .returned (.pointer (some ⟨g, n * 3, none⟩)) ∧ Took 79 3 zI pb 8 (parr values first vs is) is w w' g n cap cur := by
  go_enter Try.func14, Try.ntmps14
  go_wp2_with fail
  refine (newItems pb values first vs is h0 h1 w hpb hS).mono ?_
  rintro e w' ⟨g, n, cap, cur, rfl, hT⟩
  go_wp2
  go_ret
  exact ⟨g, n, cap, cur, rfl, hT⟩

/-! ### What is kept -/
theorem took_slab {E sz : Nat} {z : Array Value} {pb k : Nat} {arr : Array Value} {s : Value} {w w' : World} {g n cap : Nat} {cur : Array Value} (h : Took E sz z pb k arr s w w' g n cap cur) : Slab E sz z w' (.slice (some ⟨g, 0, none⟩) (n + 1) cap) := by
  refine .inr ⟨g, n + 1, cap, cur, rfl, h.lt, Nat.lt_of_le_of_lt (Nat.zero_le _) h.lt, h.le, h.blk, h.size, fun j h1 h2 => h.zero j (Nat.le_trans ?_ h1) h2⟩
  exact Nat.mul_le_mul_right _ (Nat.le_succ n)

theorem took_cell {E sz : Nat} {z : Array Value} {pb k : Nat} {arr : Array Value} {s : Value} {w w' : World} {g n cap : Nat} {cur : Array Value} (h : Took E sz z pb k arr s w w' g n cap cur) (hz : z.size = sz) (j : Nat) (hj : j < sz) : w'.cell? ⟨g, n * sz + j, none⟩ = some (z[j]!) := by
  have hlt : n * sz + j < cap * sz := by
    have : (n + 1) * sz ≤ cap * sz := Nat.mul_le_mul_right _ h.lt
    rw [Nat.add_mul] at this; omega
  have e := h.zero (n * sz + j) (by omega) hlt
  rw [hz, show (n * sz + j) % sz = j from by rw [Nat.add_comm, Nat.add_mul_mod_self_right, Nat.mod_eq_of_lt hj]] at e
  exact cell_at h.blk e
end Go.Proofs.Qxb6609531a.items
