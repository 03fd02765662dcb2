import Derived.Test.Qxb6609531aKept
namespace Go.Proofs.Qxb6609531a.itemsLaw
open Go.RowKit take items kept

theorem info38 : (Try.prog.info? 38).map (fun i => (i.zero, i.size, i.bytes)) = some (some (Value.pointer none), 1, 8) := by kernel_rfl

set_option maxHeartbeats 400000 in
theorem early (first n : Int) (h : first < 0 ∨ 512 < first ∨ (0 ≤ first ∧ first ≤ 512 ∧ (n < 0 ∨ 4096 < n))) (w : World) :
    Calls Try.prog 4 #[.int .i64 first, .int .i64 n] w fun e w' => e = .returned (.bool true) ∧ w' = w := by
  rcases h with h | h | ⟨h1, h2, h | h⟩ <;>
  · go_enter Try.func4, Try.ntmps4
    go_wp2
    all_goals (go_ret; exact ⟨rfl, rfl⟩)

/-- the loop's state behind k rounds -/
def St (w : World) (first : Int) (k : Nat) (v : Value) (wr : World) : Prop :=
  ∃ (ps : List (Nat × Nat)) (is : Value), ps.length = k ∧ wr.ownsRow w.heap.size 38 1 v k (ps.map ptr) ∧ wr.heap[w.heap.size]? = some (.cells (parr 0 first (.slice none 0 0) is) 62 (0, 0)) ∧ Slab 79 3 zI wr is ∧ Ahead 3 is ps ∧ Lies 79 wr ps ∧ Below w.heap.size w wr

theorem st_start (w : World) (first : Int) (n : Nat) (hn : n ≤ 4096) :
    St w first 0 (.slice (some ⟨w.heap.size + 1, 0, none⟩) 0 n) ((w.alloc (.cells (parr 0 first (.slice none 0 0) (.slice none 0 0)) 62)).alloc (.cells (madeCells #[.pointer none] n) 38)) := by
  refine ⟨[], .slice none 0 0, rfl, ?_, block_alloc (heap_alloc_new w _) _, .inl rfl, .inl rfl, (fun p hp => by cases hp), ?_⟩
  · have h := World.ownsRow_made (base := w.heap.size) (e := 38) (size := 1) (w.alloc (.cells (parr 0 first (.slice none 0 0) (.slice none 0 0)) 62)) (madeCells #[.pointer none] n) n (by simp) (by unfold maxLen; omega) (by rw [size_madeCells]; omega)
    simpa using h
  · exact ((Below.refl _ w).alloc (Nat.le_refl _) _).alloc (by simp) _

theorem info79' : (Try.prog.info? 79).map (fun i => (i.zero, i.size, i.bytes)) = some (some (.agg #[.slice none 0 0, .pointer none, .slice none 0 0]), 3, 56) := by kernel_rfl

/-- an earlier item is another -/
theorem found {w2 : World} {B gb cv k g m d : Nat} {ps : List (Nat × Nat)} (hown : w2.ownsRow B 38 1 (.slice (some ⟨gb, 0, none⟩) k cv) k (ps.map ptr)) (hL : Lies 79 w2 (ps ++ [(g, m * 3)])) (hA : ∀ p ∈ ps, p.1 < g ∨ (p.1 = g ∧ p.2 + 3 ≤ m * 3)) (q : Nat) (hq : q < ps.length) :
    ∃ b o, w2.cell? ⟨gb, q, none⟩ = some (.pointer (some ⟨b, o, none⟩)) ∧ (binOp .eql 38 (.pointer (some ⟨b, o, none⟩)) (.pointer (some ⟨g, m * 3, none⟩))).run Try.prog (w2.drewN d) = .ok (.bool false) (w2.drewN d) := by
  have hmem : ps[q] ∈ ps := List.getElem_mem hq
  refine ⟨ps[q].1, ps[q].2, ?_, ?_⟩
  · have h := hown.cells (g := gb) rfl q (ptr ps[q]) (by simp [List.getElem?_eq_getElem hq])
    have e : (⟨gb, 0, none⟩ : Addr).add q = ⟨gb, q, none⟩ := by unfold Addr.add; split <;> simp_all
    rw [e] at h
    exact h
  · obtain ⟨i0, hi, hz0, hz1, hz2⟩ := info_parts info79'
    obtain ⟨c1, hc1⟩ := hL ps[q] (List.mem_append_left _ hmem)
    obtain ⟨c2, hc2⟩ := hL (g, m * 3) (by simp)
    refine run_eql_ptr_other (P := Try.prog) (w2.drewN d) Try.underlying38 hi (by rw [hz1]; decide) ?_ hc1 hc2
    intro e
    simp at e
    have := hA _ hmem
    omega

theorem st_step {w w2 w4 : World} {first : Int} {k d g m cap : Nat} {v v' : Value} {ps : List (Nat × Nat)} {is : Value} {o : Array Value} (hps : ps.length = k) (hown : (w2.drewN d).ownsRow w.heap.size 38 1 v k (ps.map ptr))
    (hpb : w2.heap[w.heap.size]? = some (.cells ((parr 0 first (.slice none 0 0) is).setIfInBounds 8 (.slice (some ⟨g, 0, none⟩) (m + 1) cap)) 62 (0, 0))) (hS : Slab 79 3 zI w2 (.slice (some ⟨g, 0, none⟩) (m + 1) cap)) (hA : Ahead 3 (.slice (some ⟨g, 0, none⟩) (m + 1) cap) (ps ++ [(g, m * 3)]))
    (hL : Lies 79 w2 (ps ++ [(g, m * 3)])) (hb : Below w.heap.size w w2) (hown4 : w4.ownsRow w.heap.size 38 1 v' (k + 1) (ps.map ptr ++ [ptr (g, m * 3)])) (hgrow : ((w2.drewN d).alloc (.cells o 38)).grownBy w4 v.ownBlock) :
    St w first (k + 1) v' w4 := by
  have hown' := hown.alloc (.cells o 38)
  have hb' : Below w.heap.size w ((w2.drewN d).alloc (.cells o 38)) := by
    have h1 : Below w.heap.size w (w2.drewN d) := ⟨hb.os, hb.tape, hb.output, hb.size, hb.block⟩
    exact h1.alloc hb.size _
  refine ⟨ps ++ [(g, m * 3)], .slice (some ⟨g, 0, none⟩) (m + 1) cap, by simp [hps], by simpa using hown4, ?_, ?_, hA, ?_, ?_⟩
  · exact block_own hgrow hown' (block_alloc (w := w2.drewN d) hpb _) (by decide)
  · exact slab_own (slab_alloc (w := w2.drewN d) hS _) hgrow hown' (by decide)
  · have h1 : Lies 79 ((w2.drewN d).alloc (.cells o 38)) (ps ++ [(g, m * 3)]) := lies_kept (w := w2.drewN d) hL (World.grownBy_alloc _ _ none) (fun _ _ e => by cases e)
    exact lies_kept h1 hgrow (own_not hown' (by decide))
  · exact hb'.grown hgrow hb'.size (fun k e => (hown.lt k e).1)

set_option maxHeartbeats 2000000 in
theorem main (first : Int) (n : Nat) (h0 : 0 ≤ first) (h1 : first ≤ 512) (hn : n ≤ 4096) (w : World) :
    Calls Try.prog 4 #[.int .i64 first, .int .i64 n] w fun e w' => e = .returned (.bool true) ∧ Below w.heap.size w w' := by
  have hn' : (n : Int) ≤ 4096 := by omega
  obtain ⟨i0, hi, hz0, hz1, hz2⟩ := info_parts info38
  have hmk : ∀ w, (Instr.makeSlice 37 (.int .i64 0) (.int .i64 (n : Int))).run Try.prog w = .ok (.slice (some ⟨w.heap.size, 0, none⟩) 0 n) (w.alloc (.cells (madeCells #[.pointer none] n) 38)) := by
    intro w
    have h := run_make (P := Try.prog) w 37 38 i0 _ Try.underlying37 hi hz0 .i64 .i64 0 n (by omega) (by omega) (by rw [hz2]; omega) (by omega)
    rw [hz1] at h
    simpa [Value.cells] using h
  have hq40 : ∀ w, (binOp .neq 40 (.slice none 0 0) (.slice none 0 0)).run Try.prog w = .ok (.bool false) w := fun w => by kernel_rfl
  have hq27 : ∀ w, (binOp .neq 27 (.slice none 0 0) (.slice none 0 0)).run Try.prog w = .ok (.bool false) w := fun w => by kernel_rfl
  go_enter Try.func4, Try.ntmps4
  go_wp2_with fail
  refine (newParser first w).mono ?_
  rintro e w1 ⟨rfl, rfl⟩
  go_wp2
  go_loopw [6, 7] (fun v i wr => ∃ k gb cv : Nat, k ≤ n ∧ i = .int .i64 k ∧ v = .slice (some ⟨gb, 0, none⟩) k cv ∧ St w first k v wr) (fun _ i _ => n - (intOf i).toNat)
  case atStart => exact ⟨0, _, _, Nat.zero_le _, rfl, rfl, st_start w first n hn⟩
  case round =>
    obtain ⟨k, gb, cv, hk, rfl, rfl, ps, is, hps, hown, hpb, hS, hA, hL, hbel⟩ := hrel
    by_cases hlt : k < n
    · have hlt' : (k : Int) < n := by omega
      go_wp2_with fail
      refine (zzNewItems w.heap.size 0 first (.slice none 0 0) is h0 h1 wr hpb hS).mono ?_
      rintro e w2 ⟨g, m, cap, cur, rfl, hT⟩
      have hown2 := own_par hown hT.grown hpb (by decide)
      have hpb2 := hT.par
      have hA2 := ahead_took hA hS hT
      have hS2 := took_slab hT
      have hL2 := lies_took hL hT hpb (by decide) (m * 3)
      have hb2 : Below w.heap.size w w2 := hbel.grown hT.grown hbel.size (fun k e => by cases e; exact Nat.le_refl _)
      have hc0 : w2.cell? ⟨g, m * 3, none⟩ = some (.slice none 0 0) := took_cell hT rfl 0 (by decide)
      have hc2 : w2.cell? ⟨g, m * 3 + 2, none⟩ = some (.slice none 0 0) := took_cell hT rfl 2 (by decide)
      clear hown hpb hS hA hL hbel hT
      go_wp2_with fail
      refine (itemsParts g (m * 3) w2 hc0 hc2).mono ?_
      rintro e w3 ⟨rfl, d, rfl⟩
      clear hc0 hc2
      go_wp2
      go_loop [11] (fun j => ∃ q : Nat, q ≤ k ∧ j = .int .i64 q) (fun j => k - (intOf j).toNat)
      case atStart => exact ⟨0, Nat.zero_le _, rfl⟩
      case round =>
        obtain ⟨q, hq, rfl⟩ := hrel
        by_cases hqk : q < k
        · have hqk' : (q : Int) < k := by omega
          obtain ⟨b, o, hcq, hpe⟩ : ∃ b o, w2.cell? ⟨gb, q, none⟩ = some (.pointer (some ⟨b, o, none⟩)) ∧ (binOp .eql 38 (.pointer (some ⟨b, o, none⟩)) (.pointer (some ⟨g, m * 3, none⟩))).run Try.prog (w2.drewN d) = .ok (.bool false) (w2.drewN d) :=
            found hown2 hL2 hA2.1 q (by omega)
          go_wp2
          go_round
          case rel => exact ⟨q + 1, by omega, by go_num⟩
          case measure => simp [intOf]; omega
        · have hown3 : (w2.drewN d).ownsRow w.heap.size 38 1 (.slice (some ⟨gb, 0, none⟩) k cv) k (ps.map ptr) := hown2
          have hone : ∀ u ∈ [ptr (g, m * 3)], u.oneCell' = true := by intro u hu; simp at hu; subst hu; rfl
          have h63 : k + 1 ≤ maxLen := by unfold maxLen; omega
          have hby : (k + 1) * 8 ≤ 140737488355328 := by omega
          have hbs : ∀ o, w.heap.size ≤ ((w2.drewN d).alloc o).heap.size := fun o => by rw [show ((w2.drewN d).alloc o).heap.size = w2.heap.size + 1 from by simp]; exact Nat.le_succ_of_le hb2.size
          go_wp2_with (at_builtin; refine wpList_append_own_at _ rfl _ _ 37 rfl w.heap.size 38 i0 (.pointer none) 1 8 Try.underlying37 hi hz0 hz1 hz2 rfl (by decide) (.slice (some ⟨gb, 0, none⟩) k cv) k (ps.map ptr) rfl (hown3.alloc _) _ 1 1 [ptr (g, m * 3)] rfl rfl (cell_one_new _ _ _) hone h63 hby (hbs _) ?_)
          intro v' w4 hown4 hgrow _ hat
          obtain ⟨gb', cv', rfl⟩ : ∃ gb' cv', v' = .slice (some ⟨gb', 0, none⟩) (k + 1) cv' := by
            rcases hown4.2 with ⟨_, h⟩ | ⟨g', cap', _, h, _⟩
            · omega
            · exact ⟨g', cap', h⟩
          go_wp2
          go_roundw
          case rel =>
            exact ⟨k + 1, gb', cv', by omega, by go_num, rfl, st_step hps hown3 hpb2 hS2 hA2.2 hL2 hb2 hown4 hgrow⟩
          case measure => simp [intOf]; omega
    · go_wp2_with fail
      refine (zzValues w.heap.size 0 first (.slice none 0 0) is wr hpb).mono ?_
      rintro e w2 ⟨rfl, rfl⟩
      go_wp2
      go_ret
      exact ⟨rfl, hbel⟩
end Go.Proofs.Qxb6609531a.itemsLaw
