import Derived.Test.Qxb6609531aRows
import Derived.WalkKit
import Derived.WalkSpells
import Derived.OwnWalk
import Derived.RowKit3
import Derived.Below
import Derived.Laws.AppendOwn
import Derived.Laws.MakeOwn
import Derived.Maps.AppendAt
import Derived.Deep.Draws
import Derived.Deep.RegionWith
import Derived.Deep.DrawnRows
import Derived.Deep.QuietTactic
import Derived.BigQuiet
import Derived.WalkLawsBesides
namespace Go.Proofs.Qxb6609531a.take
open Go.RowKit

/-! ### Words for memory -/
/-- A slab: none yet; or the first n of cap elements of a block are given out, the rest is as it was made. -/
def Slab (E sz : Nat) (z : Array Value) (w : World) (s : Value) : Prop :=
  s = .slice none 0 0 ∨ ∃ g n cap cur, s = .slice (some ⟨g, 0, none⟩) n cap ∧ n ≤ cap ∧ 0 < cap ∧ cap ≤ 512 ∧ w.heap[g]? = some (.cells cur E (0, 0)) ∧ cur.size = cap * sz ∧ ∀ j, n * sz ≤ j → j < cap * sz → cur[j]? = some (z[j % z.size]!)

/-- What a take leaves: element n of block g was given out. -/
structure Took (E sz : Nat) (z : Array Value) (pb k : Nat) (arr : Array Value) (s : Value) (w w' : World) (g n cap : Nat) (cur : Array Value) : Prop where
  par : w'.heap[pb]? = some (.cells (arr.setIfInBounds k (.slice (some ⟨g, 0, none⟩) (n + 1) cap)) 62 (0, 0))
  grown : w.grownBy w' (some pb)
  blk : w'.heap[g]? = some (.cells cur E (0, 0))
  size : cur.size = cap * sz
  zero : ∀ j, n * sz ≤ j → j < cap * sz → cur[j]? = some (z[j % z.size]!)
  lt : n < cap
  le : cap ≤ 512
  from_ : (s = .slice (some ⟨g, 0, none⟩) n cap ∧ g < w.heap.size ∧ w.heap[g]? = some (.cells cur E (0, 0))) ∨ (g = w.heap.size ∧ n = 0)

theorem heap_setCell_at {w : World} {b k : Nat} {arr : Array Value} {t : TypeId} (v : Value) (h : w.heap[b]? = some (.cells arr t (0, 0))) : (w.setCell ⟨b, k, none⟩ v).heap[b]? = some (.cells (arr.setIfInBounds k v) t (0, 0)) := by
  simp [World.setCell, Array.getElem?_modify, h]

theorem heap_drewN (w : World) (n : Nat) : (w.drewN n).heap = w.heap := rfl

theorem cell_at {w : World} {b : Nat} {arr : Array Value} {t : TypeId} (h : w.heap[b]? = some (.cells arr t (0, 0))) {o : Nat} {v : Value} (ha : arr[o]? = some v) : w.cell? ⟨b, o, none⟩ = some v := by
  simp [World.cell?, h, ha]

theorem frozen_at {w : World} {b : Nat} {arr : Array Value} {t : TypeId} (h : w.heap[b]? = some (.cells arr t (0, 0))) (o : Nat) : w.frozen? ⟨b, o, none⟩ = false := by
  simp [World.frozen?, h]

theorem grownBy_setCell (w : World) (b o : Nat) (u : Value) : w.grownBy (w.setCell ⟨b, o, none⟩ u) (some b) :=
  ⟨rfl, rfl, rfl, by simp [World.setCell], fun k _ hne => Below.heap_setCell _ _ _ _ (fun e => hne (by rw [e]))⟩

theorem grownBy_drewN (w : World) (n : Nat) (row : Option Nat) : w.grownBy (w.drewN n) row := ⟨rfl, rfl, rfl, Nat.le_refl _, fun _ _ _ => rfl⟩

theorem made_get (z : Array Value) (m j : Nat) (h : j < m) : (madeCells z m)[j]? = some (z[j % z.size]!) := by
  simp [madeCells, h]

/-- the way with room -/
theorem took_room {E sz : Nat} {z : Array Value} {pb k : Nat} {arr : Array Value} {w : World} {g n cap d : Nat} {cur : Array Value} (hE : E ≠ 62) (hpb : w.heap[pb]? = some (.cells arr 62 (0, 0))) (hg : w.heap[g]? = some (.cells cur E (0, 0)))
    (hs : cur.size = cap * sz) (hz : ∀ j, n * sz ≤ j → j < cap * sz → cur[j]? = some (z[j % z.size]!)) (hlt : n < cap) (hle : cap ≤ 512) :
    Took E sz z pb k arr (.slice (some ⟨g, 0, none⟩) n cap) w ((w.drewN d).setCell ⟨pb, k, none⟩ (.slice (some ⟨g, 0, none⟩) (n + 1) cap)) g n cap cur := by
  have hne : g ≠ pb := by rintro rfl; rw [hg] at hpb; simp at hpb; exact hE hpb.2
  refine ⟨heap_setCell_at _ hpb, (grownBy_drewN w d _).trans (grownBy_setCell _ _ _ _), ?_, hs, hz, hlt, hle, .inl ⟨rfl, (Array.getElem?_eq_some_iff.1 hg).1, hg⟩⟩
  rw [Below.heap_setCell _ _ _ _ hne]
  exact hg

/-- the way with a new slab -/
theorem took_new {E sz : Nat} {z : Array Value} {pb k : Nat} {arr : Array Value} {s v0 : Value} {w : World} {c d : Nat} (hpb : w.heap[pb]? = some (.cells arr 62 (0, 0))) (hc0 : 0 < c) (hc : c ≤ 512) (w1 : World) (hw1 : w.drewN d = w1) :
    Took E sz z pb k arr s w (((w1.setCell ⟨pb, k, none⟩ v0).setCell ⟨pb, k, none⟩ (.slice (some ⟨w1.heap.size, 0, none⟩) 1 c)).alloc (.cells (madeCells z (c * sz)) E)) w.heap.size 0 c (madeCells z (c * sz)) := by
  subst hw1
  rw [heap_drewN]
  have hlt : pb < w.heap.size := (Array.getElem?_eq_some_iff.1 hpb).1
  have h1 : ((w.drewN d).setCell ⟨pb, k, none⟩ v0).heap[pb]? = some (.cells (arr.setIfInBounds k v0) 62 (0, 0)) := heap_setCell_at _ hpb
  have h2 := heap_setCell_at (k := k) (.slice (some ⟨w.heap.size, 0, none⟩) 1 c) h1
  have hsz : (((w.drewN d).setCell ⟨pb, k, none⟩ v0).setCell ⟨pb, k, none⟩ (.slice (some ⟨w.heap.size, 0, none⟩) 1 c)).heap.size = w.heap.size := by simp [World.setCell]
  refine ⟨?_, ?_, ?_, by rw [size_madeCells], fun j _ hj => made_get z _ j hj, hc0, hc, .inr ⟨rfl, rfl⟩⟩
  · show (World.alloc _ _).heap[pb]? = _
    rw [Below.heap_alloc _ _ _ (Nat.lt_of_lt_of_eq hlt hsz.symm)]
    refine h2.trans ?_
    simp
  · exact ((((grownBy_drewN w d _).trans (grownBy_setCell _ _ _ _)).trans (grownBy_setCell _ _ _ _)).trans (World.grownBy_alloc _ _ _))
  · have h3 := heap_alloc_new (((w.drewN d).setCell ⟨pb, k, none⟩ v0).setCell ⟨pb, k, none⟩ (.slice (some ⟨w.heap.size, 0, none⟩) 1 c)) (.cells (madeCells z (c * sz)) E)
    rw [hsz] at h3
    exact h3

theorem info79 : (Try.prog.info? 79).map (fun i => (i.zero, i.size, i.bytes)) = some (some (.agg #[.slice none 0 0, .pointer none, .slice none 0 0]), 3, 56) := by kernel_rfl
theorem info68 : (Try.prog.info? 68).map (fun i => (i.zero, i.size, i.bytes)) = some (some (.agg #[.int .i64 0, .bool false, .string ⟨#[]⟩, .slice none 0 0, .pointer none, .pointer none, .string ⟨#[]⟩, .int .i64 0, .int .i64 0]), 9, 104) := by kernel_rfl

def zI : Array Value := #[.slice none 0 0, .pointer none, .slice none 0 0]
def zV : Array Value := #[.int .i64 0, .bool false, .string ⟨#[]⟩, .slice none 0 0, .pointer none, .pointer none, .string ⟨#[]⟩, .int .i64 0, .int .i64 0]

theorem makeI (c : Nat) (hc : c ≤ 512) (i : Int) (hi : i = c) (w : World) : (Instr.makeSlice 54 (.int .i64 0) (.int .i64 i)).run Try.prog w = .ok (.slice (some ⟨w.heap.size, 0, none⟩) 0 c) (w.alloc (.cells (madeCells zI (c * 3)) 79)) := by
  subst hi
  obtain ⟨i0, hi, hz0, hz1, hz2⟩ := info_parts info79
  have h := run_make (P := Try.prog) w 54 79 i0 _ Try.underlying54 hi hz0 .i64 .i64 0 c (by omega) (by omega) (by rw [hz2]; omega) (by omega)
  rw [hz1] at h
  simpa [zI, Value.cells] using h

theorem makeV (c : Nat) (hc : c ≤ 512) (i : Int) (hi : i = c) (w : World) : (Instr.makeSlice 52 (.int .i64 0) (.int .i64 i)).run Try.prog w = .ok (.slice (some ⟨w.heap.size, 0, none⟩) 0 c) (w.alloc (.cells (madeCells zV (c * 9)) 68)) := by
  subst hi
  obtain ⟨i0, hi, hz0, hz1, hz2⟩ := info_parts info68
  have h := run_make (P := Try.prog) w 52 68 i0 _ Try.underlying52 hi hz0 .i64 .i64 0 c (by omega) (by omega) (by rw [hz2]; omega) (by omega)
  rw [hz1] at h
  simpa [zV, Value.cells] using h


set_option maxHeartbeats 400000 in
theorem takeI_room (pb k g n cap : Nat) (first : Int) (hn : n < cap) (hcap : cap ≤ 512) (w : World)
    (hc : w.cell? ⟨pb, k, none⟩ = some (.slice (some ⟨g, 0, none⟩) n cap)) (hf : w.frozen? ⟨pb, k, none⟩ = false) :
    Calls Try.prog 22 #[.pointer (some ⟨pb, k, none⟩), .int .i64 1, .int .i64 first] w fun e w' => e = .returned (.slice (some ⟨g, n * 3, none⟩) 1 1) ∧
      ∃ d, w' = (w.drewN d).setCell ⟨pb, k, none⟩ (.slice (some ⟨g, 0, none⟩) (n + 1) cap) := by
  have i1 : (n : Int) < cap := by omega
  have i2 : (cap : Int) ≤ 512 := by omega
  go_enter Try.func22, Try.ntmps22
  go_wp2
  go_quiet (fail)
  go_wp2
  go_ret
  exact ⟨rfl, nq, rfl⟩

set_option maxHeartbeats 400000 in
theorem takeI_nil (pb k : Nat) (first : Int) (h0 : 0 ≤ first) (h1 : first ≤ 512) (w : World)
    (hc : w.cell? ⟨pb, k, none⟩ = some (.slice none 0 0)) (hf : w.frozen? ⟨pb, k, none⟩ = false) :
    Calls Try.prog 22 #[.pointer (some ⟨pb, k, none⟩), .int .i64 1, .int .i64 first] w fun e w' => e = .returned (.slice (some ⟨w.heap.size, 0, none⟩) 1 1) ∧
      ∃ c d w1 v0, 0 < c ∧ c ≤ 512 ∧ w.drewN d = w1 ∧ w' = ((w1.setCell ⟨pb, k, none⟩ v0).setCell ⟨pb, k, none⟩ (.slice (some ⟨w1.heap.size, 0, none⟩) 1 c)).alloc (.cells (madeCells zI (c * 3)) 79) := by
  have hlt0 : pb < w.heap.size := World.block_lt_of_cell? w _ hc
  obtain ⟨c, hcc⟩ : ∃ c : Nat, (c : Int) = max first 1 := ⟨(max first 1).toNat, by omega⟩
  by_cases hx : first < 1
  · have hmk := fun w => makeI c (by omega) 1 (by omega) w
    have hn1 : (1 : Int) ≤ c := by omega
    have hn2 : (c : Int) ≤ 512 := by omega
    clear hcc
    go_enter Try.func22, Try.ntmps22
    go_wp2
    go_quiet (fail)
    have hlt1 : pb < (w.drewN nq).heap.size := hlt0
    have hc1 : (w.drewN nq).cell? ⟨pb, k, none⟩ = some (.slice none 0 0) := hc
    have hf1 : (w.drewN nq).frozen? ⟨pb, k, none⟩ = false := hf
    have hs1 : Hid ((w.drewN nq).heap.size = w.heap.size) := (rfl : _ = _)
    generalize hw1 : w.drewN nq = w1 at hlt1 hc1 hf1 hs1 ⊢
    have H1 : Hid (w.drewN nq = w1) := hw1
    clear hw1
    go_wp2
    go_ret
    exact ⟨by rw [← hs1.out]; rfl, c, nq, w1, _, by omega, by omega, H1.out, rfl⟩
  · have hmk := fun w => makeI c (by omega) first (by omega) w
    have hn1 : (1 : Int) ≤ c := by omega
    have hn2 : (c : Int) ≤ 512 := by omega
    clear hcc
    go_enter Try.func22, Try.ntmps22
    go_wp2
    go_quiet (fail)
    have hlt1 : pb < (w.drewN nq).heap.size := hlt0
    have hc1 : (w.drewN nq).cell? ⟨pb, k, none⟩ = some (.slice none 0 0) := hc
    have hf1 : (w.drewN nq).frozen? ⟨pb, k, none⟩ = false := hf
    have hs1 : Hid ((w.drewN nq).heap.size = w.heap.size) := (rfl : _ = _)
    generalize hw1 : w.drewN nq = w1 at hlt1 hc1 hf1 hs1 ⊢
    have H1 : Hid (w.drewN nq = w1) := hw1
    clear hw1
    go_wp2
    go_ret
    exact ⟨by rw [← hs1.out]; rfl, c, nq, w1, _, by omega, by omega, H1.out, rfl⟩

set_option maxHeartbeats 400000 in
theorem takeI_full (pb k g cap : Nat) (first : Int) (hcap0 : 0 < cap) (hcap : cap ≤ 512) (w : World)
    (hc : w.cell? ⟨pb, k, none⟩ = some (.slice (some ⟨g, 0, none⟩) cap cap)) (hf : w.frozen? ⟨pb, k, none⟩ = false) :
    Calls Try.prog 22 #[.pointer (some ⟨pb, k, none⟩), .int .i64 1, .int .i64 first] w fun e w' => e = .returned (.slice (some ⟨w.heap.size, 0, none⟩) 1 1) ∧
      ∃ c d w1 v0, 0 < c ∧ c ≤ 512 ∧ w.drewN d = w1 ∧ w' = ((w1.setCell ⟨pb, k, none⟩ v0).setCell ⟨pb, k, none⟩ (.slice (some ⟨w1.heap.size, 0, none⟩) 1 c)).alloc (.cells (madeCells zI (c * 3)) 79) := by
  have hlt0 : pb < w.heap.size := World.block_lt_of_cell? w _ hc
  have i1 : (0 : Int) < cap := by omega
  have i2 : (cap : Int) ≤ 512 := by omega
  by_cases hx : 2 * (cap : Int) < 512
  · obtain ⟨c, hcc⟩ : ∃ c : Nat, c = 2 * cap := ⟨_, rfl⟩
    have hmk := fun w => makeI c (by omega) (2 * (cap : Int)) (by omega) w
    have hn1 : (1 : Int) ≤ c := by omega
    have hn2 : (c : Int) ≤ 512 := by omega
    have hn3 : ¬ 2 * (cap : Int) < 1 := by omega
    clear hcc
    go_enter Try.func22, Try.ntmps22
    go_wp2
    go_quiet (fail)
    have hlt1 : pb < (w.drewN nq).heap.size := hlt0
    have hc1 : (w.drewN nq).cell? ⟨pb, k, none⟩ = some (.slice (some ⟨g, 0, none⟩) cap cap) := hc
    have hf1 : (w.drewN nq).frozen? ⟨pb, k, none⟩ = false := hf
    have hs1 : Hid ((w.drewN nq).heap.size = w.heap.size) := (rfl : _ = _)
    generalize hw1 : w.drewN nq = w1 at hlt1 hc1 hf1 hs1 ⊢
    have H1 : Hid (w.drewN nq = w1) := hw1
    clear hw1
    go_wp2
    go_ret
    exact ⟨by rw [← hs1.out]; rfl, c, nq, w1, _, by omega, by omega, H1.out, rfl⟩
  by_cases hy : 2 * cap = 512
  · obtain rfl : cap = 256 := by omega
    have hmk := fun w => makeI 512 (by omega) 512 (by omega) w
    go_enter Try.func22, Try.ntmps22
    go_wp2
    go_quiet (fail)
    have hlt1 : pb < (w.drewN nq).heap.size := hlt0
    have hc1 : (w.drewN nq).cell? ⟨pb, k, none⟩ = some (.slice (some ⟨g, 0, none⟩) 256 256) := hc
    have hf1 : (w.drewN nq).frozen? ⟨pb, k, none⟩ = false := hf
    have hs1 : Hid ((w.drewN nq).heap.size = w.heap.size) := (rfl : _ = _)
    generalize hw1 : w.drewN nq = w1 at hlt1 hc1 hf1 hs1 ⊢
    have H1 : Hid (w.drewN nq = w1) := hw1
    clear hw1
    go_wp2
    go_ret
    exact ⟨by rw [← hs1.out]; rfl, 512, nq, w1, _, by omega, by omega, H1.out, rfl⟩
  · have hmk := fun w => makeI 512 (by omega) 512 (by omega) w
    have hgt : 512 < 2 * (cap : Int) := by omega
    go_enter Try.func22, Try.ntmps22
    go_wp2
    go_quiet (fail)
    have hlt1 : pb < (w.drewN nq).heap.size := hlt0
    have hc1 : (w.drewN nq).cell? ⟨pb, k, none⟩ = some (.slice (some ⟨g, 0, none⟩) cap cap) := hc
    have hf1 : (w.drewN nq).frozen? ⟨pb, k, none⟩ = false := hf
    have hs1 : Hid ((w.drewN nq).heap.size = w.heap.size) := (rfl : _ = _)
    generalize hw1 : w.drewN nq = w1 at hlt1 hc1 hf1 hs1 ⊢
    have H1 : Hid (w.drewN nq = w1) := hw1
    clear hw1
    go_wp2
    go_ret
    exact ⟨by rw [← hs1.out]; rfl, 512, nq, w1, _, by omega, by omega, H1.out, rfl⟩

/-- take(1, first) on a slab that lies in cell k of the parser's block -/
theorem takeI (pb k : Nat) (arr : Array Value) (s : Value) (first : Int) (h0 : 0 ≤ first) (h1 : first ≤ 512) (w : World) (hpb : w.heap[pb]? = some (.cells arr 62 (0, 0))) (hk : arr[k]? = some s) (hS : Slab 79 3 zI w s) :
    Calls Try.prog 22 #[.pointer (some ⟨pb, k, none⟩), .int .i64 1, .int .i64 first] w fun e w' => ∃ g n cap cur, e = .returned (.slice (some ⟨g, n * 3, none⟩) 1 1) ∧ Took 79 3 zI pb k arr s w w' g n cap cur := by
  have hc := cell_at hpb hk
  have hf := frozen_at hpb k
  rcases hS with rfl | ⟨g, n, cap, cur, rfl, hn, hcap0, hcap, hg, hsz, hz⟩
  · refine (takeI_nil pb k first h0 h1 w hc hf).mono ?_
    rintro e w' ⟨rfl, c, d, w1, v0, hc0, hc5, hw1, rfl⟩
    exact ⟨w.heap.size, 0, c, _, by simp, took_new hpb hc0 hc5 w1 hw1⟩
  · by_cases hlt : n < cap
    · refine (takeI_room pb k g n cap first hlt hcap w hc hf).mono ?_
      rintro e w' ⟨rfl, d, rfl⟩
      exact ⟨g, n, cap, cur, rfl, took_room (by decide) hpb hg hsz hz hlt hcap⟩
    · obtain rfl : n = cap := by omega
      refine (takeI_full pb k g n first hcap0 hcap w hc hf).mono ?_
      rintro e w' ⟨rfl, c, d, w1, v0, hc0, hc5, hw1, rfl⟩
      exact ⟨w.heap.size, 0, c, _, by simp, took_new hpb hc0 hc5 w1 hw1⟩

set_option maxHeartbeats 400000 in
theorem takeV_room (pb k g n cap : Nat) (first : Int) (hn : n < cap) (hcap : cap ≤ 512) (w : World)
    (hc : w.cell? ⟨pb, k, none⟩ = some (.slice (some ⟨g, 0, none⟩) n cap)) (hf : w.frozen? ⟨pb, k, none⟩ = false) :
    Calls Try.prog 23 #[.pointer (some ⟨pb, k, none⟩), .int .i64 1, .int .i64 first] w fun e w' => e = .returned (.slice (some ⟨g, n * 9, none⟩) 1 1) ∧
      ∃ d, w' = (w.drewN d).setCell ⟨pb, k, none⟩ (.slice (some ⟨g, 0, none⟩) (n + 1) cap) := by
  have i1 : (n : Int) < cap := by omega
  have i2 : (cap : Int) ≤ 512 := by omega
  go_enter Try.func23, Try.ntmps23
  go_wp2
  go_quiet (fail)
  go_wp2
  go_ret
  exact ⟨rfl, nq, rfl⟩

set_option maxHeartbeats 400000 in
theorem takeV_nil (pb k : Nat) (first : Int) (h0 : 0 ≤ first) (h1 : first ≤ 512) (w : World)
    (hc : w.cell? ⟨pb, k, none⟩ = some (.slice none 0 0)) (hf : w.frozen? ⟨pb, k, none⟩ = false) :
    Calls Try.prog 23 #[.pointer (some ⟨pb, k, none⟩), .int .i64 1, .int .i64 first] w fun e w' => e = .returned (.slice (some ⟨w.heap.size, 0, none⟩) 1 1) ∧
      ∃ c d w1 v0, 0 < c ∧ c ≤ 512 ∧ w.drewN d = w1 ∧ w' = ((w1.setCell ⟨pb, k, none⟩ v0).setCell ⟨pb, k, none⟩ (.slice (some ⟨w1.heap.size, 0, none⟩) 1 c)).alloc (.cells (madeCells zV (c * 9)) 68) := by
  have hlt0 : pb < w.heap.size := World.block_lt_of_cell? w _ hc
  obtain ⟨c, hcc⟩ : ∃ c : Nat, (c : Int) = max first 1 := ⟨(max first 1).toNat, by omega⟩
  by_cases hx : first < 1
  · have hmk := fun w => makeV c (by omega) 1 (by omega) w
    have hn1 : (1 : Int) ≤ c := by omega
    have hn2 : (c : Int) ≤ 512 := by omega
    clear hcc
    go_enter Try.func23, Try.ntmps23
    go_wp2
    go_quiet (fail)
    have hlt1 : pb < (w.drewN nq).heap.size := hlt0
    have hc1 : (w.drewN nq).cell? ⟨pb, k, none⟩ = some (.slice none 0 0) := hc
    have hf1 : (w.drewN nq).frozen? ⟨pb, k, none⟩ = false := hf
    have hs1 : Hid ((w.drewN nq).heap.size = w.heap.size) := (rfl : _ = _)
    generalize hw1 : w.drewN nq = w1 at hlt1 hc1 hf1 hs1 ⊢
    have H1 : Hid (w.drewN nq = w1) := hw1
    clear hw1
    go_wp2
    go_ret
    exact ⟨by rw [← hs1.out]; rfl, c, nq, w1, _, by omega, by omega, H1.out, rfl⟩
  · have hmk := fun w => makeV c (by omega) first (by omega) w
    have hn1 : (1 : Int) ≤ c := by omega
    have hn2 : (c : Int) ≤ 512 := by omega
    clear hcc
    go_enter Try.func23, Try.ntmps23
    go_wp2
    go_quiet (fail)
    have hlt1 : pb < (w.drewN nq).heap.size := hlt0
    have hc1 : (w.drewN nq).cell? ⟨pb, k, none⟩ = some (.slice none 0 0) := hc
    have hf1 : (w.drewN nq).frozen? ⟨pb, k, none⟩ = false := hf
    have hs1 : Hid ((w.drewN nq).heap.size = w.heap.size) := (rfl : _ = _)
    generalize hw1 : w.drewN nq = w1 at hlt1 hc1 hf1 hs1 ⊢
    have H1 : Hid (w.drewN nq = w1) := hw1
    clear hw1
    go_wp2
    go_ret
    exact ⟨by rw [← hs1.out]; rfl, c, nq, w1, _, by omega, by omega, H1.out, rfl⟩

set_option maxHeartbeats 400000 in
theorem takeV_full (pb k g cap : Nat) (first : Int) (hcap0 : 0 < cap) (hcap : cap ≤ 512) (w : World)
    (hc : w.cell? ⟨pb, k, none⟩ = some (.slice (some ⟨g, 0, none⟩) cap cap)) (hf : w.frozen? ⟨pb, k, none⟩ = false) :
    Calls Try.prog 23 #[.pointer (some ⟨pb, k, none⟩), .int .i64 1, .int .i64 first] w fun e w' => e = .returned (.slice (some ⟨w.heap.size, 0, none⟩) 1 1) ∧
      ∃ c d w1 v0, 0 < c ∧ c ≤ 512 ∧ w.drewN d = w1 ∧ w' = ((w1.setCell ⟨pb, k, none⟩ v0).setCell ⟨pb, k, none⟩ (.slice (some ⟨w1.heap.size, 0, none⟩) 1 c)).alloc (.cells (madeCells zV (c * 9)) 68) := by
  have hlt0 : pb < w.heap.size := World.block_lt_of_cell? w _ hc
  have i1 : (0 : Int) < cap := by omega
  have i2 : (cap : Int) ≤ 512 := by omega
  by_cases hx : 2 * (cap : Int) < 512
  · obtain ⟨c, hcc⟩ : ∃ c : Nat, c = 2 * cap := ⟨_, rfl⟩
    have hmk := fun w => makeV c (by omega) (2 * (cap : Int)) (by omega) w
    have hn1 : (1 : Int) ≤ c := by omega
    have hn2 : (c : Int) ≤ 512 := by omega
    have hn3 : ¬ 2 * (cap : Int) < 1 := by omega
    clear hcc
    go_enter Try.func23, Try.ntmps23
    go_wp2
    go_quiet (fail)
    have hlt1 : pb < (w.drewN nq).heap.size := hlt0
    have hc1 : (w.drewN nq).cell? ⟨pb, k, none⟩ = some (.slice (some ⟨g, 0, none⟩) cap cap) := hc
    have hf1 : (w.drewN nq).frozen? ⟨pb, k, none⟩ = false := hf
    have hs1 : Hid ((w.drewN nq).heap.size = w.heap.size) := (rfl : _ = _)
    generalize hw1 : w.drewN nq = w1 at hlt1 hc1 hf1 hs1 ⊢
    have H1 : Hid (w.drewN nq = w1) := hw1
    clear hw1
    go_wp2
    go_ret
    exact ⟨by rw [← hs1.out]; rfl, c, nq, w1, _, by omega, by omega, H1.out, rfl⟩
  by_cases hy : 2 * cap = 512
  · obtain rfl : cap = 256 := by omega
    have hmk := fun w => makeV 512 (by omega) 512 (by omega) w
    go_enter Try.func23, Try.ntmps23
    go_wp2
    go_quiet (fail)
    have hlt1 : pb < (w.drewN nq).heap.size := hlt0
    have hc1 : (w.drewN nq).cell? ⟨pb, k, none⟩ = some (.slice (some ⟨g, 0, none⟩) 256 256) := hc
    have hf1 : (w.drewN nq).frozen? ⟨pb, k, none⟩ = false := hf
    have hs1 : Hid ((w.drewN nq).heap.size = w.heap.size) := (rfl : _ = _)
    generalize hw1 : w.drewN nq = w1 at hlt1 hc1 hf1 hs1 ⊢
    have H1 : Hid (w.drewN nq = w1) := hw1
    clear hw1
    go_wp2
    go_ret
    exact ⟨by rw [← hs1.out]; rfl, 512, nq, w1, _, by omega, by omega, H1.out, rfl⟩
  · have hmk := fun w => makeV 512 (by omega) 512 (by omega) w
    have hgt : 512 < 2 * (cap : Int) := by omega
    go_enter Try.func23, Try.ntmps23
    go_wp2
    go_quiet (fail)
    have hlt1 : pb < (w.drewN nq).heap.size := hlt0
    have hc1 : (w.drewN nq).cell? ⟨pb, k, none⟩ = some (.slice (some ⟨g, 0, none⟩) cap cap) := hc
    have hf1 : (w.drewN nq).frozen? ⟨pb, k, none⟩ = false := hf
    have hs1 : Hid ((w.drewN nq).heap.size = w.heap.size) := (rfl : _ = _)
    generalize hw1 : w.drewN nq = w1 at hlt1 hc1 hf1 hs1 ⊢
    have H1 : Hid (w.drewN nq = w1) := hw1
    clear hw1
    go_wp2
    go_ret
    exact ⟨by rw [← hs1.out]; rfl, 512, nq, w1, _, by omega, by omega, H1.out, rfl⟩

/-- take(1, first) on a slab that lies in cell k of the parser's block -/
theorem takeV (pb k : Nat) (arr : Array Value) (s : Value) (first : Int) (h0 : 0 ≤ first) (h1 : first ≤ 512) (w : World) (hpb : w.heap[pb]? = some (.cells arr 62 (0, 0))) (hk : arr[k]? = some s) (hS : Slab 68 9 zV w s) :
    Calls Try.prog 23 #[.pointer (some ⟨pb, k, none⟩), .int .i64 1, .int .i64 first] w fun e w' => ∃ g n cap cur, e = .returned (.slice (some ⟨g, n * 9, none⟩) 1 1) ∧ Took 68 9 zV pb k arr s w w' g n cap cur := by
  have hc := cell_at hpb hk
  have hf := frozen_at hpb k
  rcases hS with rfl | ⟨g, n, cap, cur, rfl, hn, hcap0, hcap, hg, hsz, hz⟩
  · refine (takeV_nil pb k first h0 h1 w hc hf).mono ?_
    rintro e w' ⟨rfl, c, d, w1, v0, hc0, hc5, hw1, rfl⟩
    exact ⟨w.heap.size, 0, c, _, by simp, took_new hpb hc0 hc5 w1 hw1⟩
  · by_cases hlt : n < cap
    · refine (takeV_room pb k g n cap first hlt hcap w hc hf).mono ?_
      rintro e w' ⟨rfl, d, rfl⟩
      exact ⟨g, n, cap, cur, rfl, took_room (by decide) hpb hg hsz hz hlt hcap⟩
    · obtain rfl : n = cap := by omega
      refine (takeV_full pb k g n first hcap0 hcap w hc hf).mono ?_
      rintro e w' ⟨rfl, c, d, w1, v0, hc0, hc5, hw1, rfl⟩
      exact ⟨w.heap.size, 0, c, _, by simp, took_new hpb hc0 hc5 w1 hw1⟩

end Go.Proofs.Qxb6609531a.take
