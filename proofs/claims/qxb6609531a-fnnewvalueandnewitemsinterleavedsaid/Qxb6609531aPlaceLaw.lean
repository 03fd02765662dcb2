import Derived.Test.Qxb6609531aPlaceArgs
import Derived.Deep.RegionHeld3
namespace Go.Proofs.Qxb6609531a.placeLaw
open Go.RowKit take items kept values placed placeArgs

theorem info28 : (Try.prog.info? 28).map (fun i => (i.zero, i.size, i.bytes)) = some (some (Value.pointer none), 1, 8) := by kernel_rfl

theorem make27 (n : Nat) (hn : n ≤ 65536) (w : World) : (Instr.makeSlice 27 (.int .i64 0) (.int .i64 (n : Int))).run Try.prog w = .ok (.slice (some ⟨w.heap.size, 0, none⟩) 0 n) (w.alloc (.cells (madeCells #[.pointer none] n) 28)) := by
  obtain ⟨i0, hi, hz0, hz1, hz2⟩ := info_parts info28
  have h := run_make (P := Try.prog) w 27 28 i0 _ Try.underlying27 hi hz0 .i64 .i64 0 n (by omega) (by omega) (by rw [hz2]; omega) (by omega)
  rw [hz1] at h
  simpa [Value.cells] using h

/-- what was handed over in the first k rounds -/
def recs (H I : Nat → Int) (K : Nat → ByteArray) (k : Nat) : List Rec := (List.range k).map fun j => (H j, K j, I j)

theorem recs_succ (H I : Nat → Int) (K : Nat → ByteArray) (k : Nat) : recs H I K (k + 1) = recs H I K k ++ [(H k, K k, I k)] := by
  simp [recs, List.range_succ]

/-- the state behind k values -/
def StV (w : World) (first : Int) (gs : List Rec) (k : Nat) (v is : Value) (wr : World) : Prop :=
  ∃ (ps : List (Nat × Nat)) (vs : Value), ps.length = k ∧ gs.length = k ∧ wr.ownsRow w.heap.size 28 1 v k (ps.map ptr) ∧ wr.heap[w.heap.size]? = some (.cells (parr k first vs is) 62 (0, 0)) ∧ Slab 68 9 zV wr vs ∧ Lo w.heap.size vs ∧ Ahead 9 vs ps ∧ Lies 68 wr ps ∧ Placed wr ps gs ∧ Below w.heap.size w wr

theorem st_start (w : World) (first : Int) (n : Nat) (hn : n ≤ 65536) :
    StV w first [] 0 (.slice (some ⟨w.heap.size + 1, 0, none⟩) 0 n) (.slice none 0 0) ((w.alloc (.cells (parr 0 first (.slice none 0 0) (.slice none 0 0)) 62)).alloc (.cells (madeCells #[.pointer none] n) 28)) := by
  refine ⟨[], .slice none 0 0, rfl, rfl, ?_, block_alloc (heap_alloc_new w _) _, .inl rfl, (fun g n cap e => by simp at e), .inl rfl, (fun p hp => by cases hp), (fun j p r hp => by simp at hp), ?_⟩
  · have h := World.ownsRow_made (base := w.heap.size) (e := 28) (size := 1) (w.alloc (.cells (parr 0 first (.slice none 0 0) (.slice none 0 0)) 62)) (madeCells #[.pointer none] n) n (by simp) (by unfold maxLen; omega) (by rw [size_madeCells]; omega)
    simpa using h
  · exact ((Below.refl _ w).alloc (Nat.le_refl _) _).alloc (by simp) _

theorem own_cells {w : World} {B gb cv k : Nat} {ps : List (Nat × Nat)} (h : w.ownsRow B 28 1 (.slice (some ⟨gb, 0, none⟩) k cv) k (ps.map ptr)) (j : Nat) (p : Nat × Nat) (hp : ps[j]? = some p) : w.cell? ⟨gb, j, none⟩ = some (ptr p) := by
  have h := h.cells (g := gb) rfl j (ptr p) (by simp [hp])
  have e : (⟨gb, 0, none⟩ : Addr).add j = ⟨gb, j, none⟩ := by unfold Addr.add; split <;> simp_all
  rw [e] at h
  exact h

/-- one value more -/
theorem st_step {w wr w3 w4 : World} {first : Int} {k g m cap : Nat} {v v' vs is : Value} {ps : List (Nat × Nat)} {gs : List Rec} {h idx : Int} {key : ByteArray} {o : Array Value}
    (hps : ps.length = k) (hgs : gs.length = k) (hown : wr.ownsRow w.heap.size 28 1 v k (ps.map ptr)) (hpb : wr.heap[w.heap.size]? = some (.cells (parr k first vs is) 62 (0, 0))) (hS : Slab 68 9 zV wr vs) (hlo : Lo w.heap.size vs) (hA : Ahead 9 vs ps) (hL : Lies 68 wr ps) (hP : Placed wr ps gs) (hbel : Below w.heap.size w wr)
    (hN : NewV w.heap.size k first vs is (hold ps h) key idx wr w3 g m cap)
    (hown4 : w4.ownsRow w.heap.size 28 1 v' (k + 1) (ps.map ptr ++ [ptr (g, m * 9)])) (hgrow : (w3.alloc (.cells o 28)).grownBy w4 v.ownBlock) :
    StV w first (gs ++ [(h, key, idx)]) (k + 1) v' is w4 := by
  have hB := hbel.size
  have hown3 := newV_own hN hpb hS hown (by decide) (by decide)
  have hown' := hown3.alloc (.cells o 28)
  have hb3 := newV_below hN hbel hB (Nat.le_refl _) hlo
  have hb' : Below w.heap.size w (w3.alloc (.cells o 28)) := hb3.alloc hb3.size _
  have hL3 := newV_lies68 hN hpb hL
  have hL' : Lies 68 (w3.alloc (.cells o 28)) (ps ++ [(g, m * 9)]) := lies_kept hL3 (World.grownBy_alloc _ _ none) (fun _ _ e => by cases e)
  have hP3 := newV_placed hN hpb hA hL hP (by omega) (by omega)
  have hP' : Placed (w3.alloc (.cells o 28)) (ps ++ [(g, m * 9)]) (gs ++ [(h, key, idx)]) := placed_kept hP3 hL3 (World.grownBy_alloc _ _ none) (fun _ _ e => by cases e)
  refine ⟨ps ++ [(g, m * 9)], .slice (some ⟨g, 0, none⟩) (m + 1) cap, by simp [hps], by simp [hgs], by simpa using hown4, ?_, ?_, newV_lo hN hB hlo, (newV_ahead hN hA hL).2, ?_, ?_, ?_⟩
  · have := block_own hgrow hown' (block_alloc hN.par (.cells o 28)) (by decide)
    simpa using this
  · exact slab_own (slab_alloc hN.slab _) hgrow hown' (by decide)
  · exact lies_kept hL' hgrow (own_not hown' (by decide))
  · exact placed_kept hP' hL' hgrow (own_not hown' (by decide))
  · exact hb'.grown hgrow hb'.size (fun k e => (hown3.lt k e).1)

theorem neq_same (po : Option Addr) (w : World) : (binOp .neq 28 (.pointer po) (.pointer po)).run Try.prog w = .ok (.bool false) w := by
  obtain ⟨i0, hi, hz0, hz1, hz2⟩ := info_parts info68
  cases po with
  | none => kernel_rfl
  | some a =>
    have h : ∀ d : Nat, (Op.equalIn (d + 1) 28 (.pointer (some a)) (.pointer (some a))).run Try.prog w = .ok true w := fun d => by
      simp [Op.equalIn, run_underlying Try.underlying28, sizeOf, typeInfo, hi, run_sameAddr_same]
    simp only [binOp]
    simp [Op.equal, Op.maxDepth, h 9999]

theorem at_place {wr : World} {B gb cv k q : Nat} {ps : List (Nat × Nat)} {H I : Nat → Int} {K : Nat → ByteArray} (hps : ps.length = k) (hown : wr.ownsRow B 28 1 (.slice (some ⟨gb, 0, none⟩) k cv) k (ps.map ptr)) (hP : Placed wr ps (recs H I K k)) (hq : q < k) :
    ∃ po pb pq, wr.cell? ⟨gb, q, none⟩ = some (.pointer (some ⟨pb, pq, none⟩)) ∧ wr.cell? ⟨pb, pq + 5, none⟩ = some (.pointer po) ∧ wr.cell? ⟨pb, pq + 6, none⟩ = some (.string (K q)) ∧ wr.cell? ⟨pb, pq + 7, none⟩ = some (.int .i64 (I q)) ∧ wr.cell? ⟨pb, pq + 8, none⟩ = some (.int .i64 q) ∧
      Hid (∀ W : World, (∀ b o, W.cell? ⟨b, o, none⟩ = wr.cell? ⟨b, o, none⟩) → Calls Try.prog 10 #[.slice (some ⟨gb, 0, none⟩) q cv, .int .i64 (H q)] W fun e w' => e = .returned (.pointer po) ∧ w' = W) := by
  have hlt : q < ps.length := by omega
  have hp : ps[q]? = some ps[q] := List.getElem?_eq_getElem hlt
  obtain ⟨c5, c6, c7, c8⟩ := hP q ps[q] (H q, K q, I q) hp (by simp [recs, hq])
  refine ⟨_, ps[q].1, ps[q].2, own_cells hown q _ hp, c5, c6, c7, c8, ?_⟩
  intro W hW
  refine holder (ps.take q) gb q cv (H q) W (by rw [List.length_take]; omega) ?_
  intro j p hj
  rw [hW]
  have hjq : j < q := by have := (List.getElem?_eq_some_iff.1 hj).1; rw [List.length_take] at this; omega
  rw [List.getElem?_take_of_lt hjq] at hj
  exact own_cells hown j p hj

set_option maxRecDepth 100000 in
set_option maxHeartbeats 2000000 in
theorem main (first : Int) (a : Option Addr) (len cap : Nat) (H I A : Nat → Int) (K : Nat → ByteArray) (h0 : 0 ≤ first) (h1 : first ≤ 512) (hlen : len ≤ 65536) (w : World) (ha : IsPl w a len H I A K) :
    Calls Try.prog 3 #[.int .i64 first, .slice a len cap] w fun e w' => e = .returned (.bool true) ∧ Below w.heap.size w w' := by
  have hlen' : (len : Int) ≤ 65536 := by omega
  have hmk := make27 len hlen
  obtain ⟨i0, hi, hz0, hz1, hz2⟩ := info_parts info28
  go_enter Try.func3, Try.ntmps3
  go_wp2_with fail
  refine (zzBytes first a len cap H I A K w ha).mono ?_
  rintro e w' ⟨⟨b, rfl⟩, rfl⟩
  cases b
  · go_wp2
    go_ret
    exact ⟨rfl, Below.refl _ _⟩
  go_wp2_with fail
  refine (zzPlaceBytes a len cap H I A K _ hlen ha).mono ?_
  rintro e w'' ⟨⟨z, rfl⟩, rfl⟩
  by_cases hz : 1048576 < z
  · go_wp2
    go_ret
    exact ⟨rfl, Below.refl _ _⟩
  go_wp2_with fail
  refine (newParser first _).mono ?_
  rintro e w1 ⟨rfl, rfl⟩
  go_wp2
  go_loopw [6, 7] (fun v i wr => ∃ k gb cv : Nat, k ≤ len ∧ i = .int .i64 k ∧ v = .slice (some ⟨gb, 0, none⟩) k cv ∧ StV w'' first (recs H I K k) k v (.slice none 0 0) wr) (fun _ i _ => len - (intOf i).toNat)
  case atStart => exact ⟨0, _, _, Nat.zero_le _, rfl, rfl, st_start w'' first len hlen⟩
  case round =>
    obtain ⟨k, gb, cv, hk, rfl, rfl, ps, vs, hps, hgs, hown, hpb, hS, hlo, hA, hL, hP, hbel⟩ := hrel
    by_cases hlt : k < len
    · have hlt' : (k : Int) < len := by omega
      obtain ⟨b, off, rfl, hcs⟩ := ha.2 (by omega)
      obtain ⟨d0, d1, d2, d3, _⟩ := hcs k hlt
      have e0 := cell_later hbel d0
      have e1 := cell_later hbel d1
      have e2 := cell_later hbel d2
      have e3 := cell_later hbel d3
      clear hcs
      have hB := hbel.size
      have hcell : ∀ j p, ps[j]? = some p → wr.cell? ⟨gb, j, none⟩ = some (ptr p) := own_cells hown
      go_wp2
      go_region_held3 (fun w' => w'.cell? ⟨b, off + k * 4, none⟩ = some (.int .i64 (H k)) ∧ w'.cell? ⟨b, off + k * 4 + 1, none⟩ = some (.string (K k)) ∧ w'.cell? ⟨b, off + k * 4 + 2, none⟩ = some (.int .i64 (I k)) ∧ w'.cell? ⟨b, off + k * 4 + 3, none⟩ = some (.int .i64 (A k))) (go_keep)
        (first
          | (go_at_call 10; refine (holder ps gb k cv (H k) _ hps ?_).mono ?_; exact hcell; rintro e w2 ⟨rfl, rfl⟩)
          | (go_at_call 9; refine (newValue w''.heap.size k first vs (.slice none 0 0) (hold ps (H k)) (K k) (I k) (A k) h0 h1 (by omega) (by omega) _ ?_ ?_).mono ?_; exact hpb; exact hS; rintro e w3 ⟨g, m, cap3, rfl, hN0⟩; have hN := newV_undrew hN0; clear hN0; have hb3 := newV_below hN hbel hB (Nat.le_refl _) hlo; have x0 := cell_later hb3 d0; have x1 := cell_later hb3 d1; have x2 := cell_later hb3 d2; have x3 := cell_later hb3 d3))
      go_wp2_with fail
      refine (fresh g (m * 9) w3 hN.c0 hN.c1 hN.c2 hN.c3 hN.c4).mono ?_
      rintro e w3' ⟨rfl, rfl⟩
      have hown3 := newV_own hN hpb hS hown (by decide) (by decide)
      have hone : ∀ u ∈ [ptr (g, m * 9)], u.oneCell' = true := by intro u hu; simp at hu; subst hu; rfl
      have h63 : k + 1 ≤ maxLen := by unfold maxLen; omega
      have hby : (k + 1) * 8 ≤ 140737488355328 := by omega
      have hbs : ∀ o, w''.heap.size ≤ (w3'.alloc o).heap.size := fun o => by rw [show (w3'.alloc o).heap.size = w3'.heap.size + 1 from by simp]; exact Nat.le_succ_of_le hb3.size
      go_wp2_with (at_builtin; refine wpList_append_own_at _ rfl _ _ 27 rfl w''.heap.size 28 i0 (.pointer none) 1 8 Try.underlying27 hi hz0 hz1 hz2 rfl (by decide) (.slice (some ⟨gb, 0, none⟩) k cv) k (ps.map ptr) rfl (hown3.alloc _) _ 1 1 [ptr (g, m * 9)] rfl rfl (cell_one_new _ _ _) hone h63 hby (hbs _) ?_)
      intro v' w4 hown4 hgrow _ hat
      obtain ⟨gb', cv', rfl⟩ : ∃ gb' cv', v' = .slice (some ⟨gb', 0, none⟩) (k + 1) cv' := by
        rcases hown4.2 with ⟨_, h⟩ | ⟨g', cap', _, h, _⟩
        · omega
        · exact ⟨g', cap', h⟩
      have hst := st_step hps hgs hown hpb hS hlo hA hL hP hbel hN hown4 hgrow
      rw [← recs_succ] at hst
      have hpb4 : w4.heap[w''.heap.size]? = some (.cells (parr (k + 1) first (.slice (some ⟨g, 0, none⟩) (m + 1) cap3) (.slice none 0 0)) 62 (0, 0)) := block_own hgrow (hown3.alloc _) (block_alloc hN.par _) (by decide)
      go_wp2_with fail
      refine (zzValues w''.heap.size (k + 1) first _ _ w4 hpb4).mono ?_
      rintro e w5 ⟨rfl, rfl⟩
      go_wp2
      go_roundw
      case rel => exact ⟨k + 1, gb', cv', by omega, by go_num, rfl, hst⟩
      case measure => simp [intOf]; omega
    · obtain rfl : k = len := by omega
      have hcv : (k : Int) ≤ cv := by
        rcases hown.2 with ⟨h, _⟩ | ⟨g', cap', _, h, _, _, h2, _⟩
        · cases h
        · cases h; omega
      go_wp2
      go_loopw [9] (fun i wq => ∃ q d : Nat, q ≤ k ∧ i = .int .i64 q ∧ wq = wr.drewN d) (fun i _ => k - (intOf i).toNat)
      case atStart => exact ⟨0, 0, Nat.zero_le _, rfl, rfl⟩
      case round =>
        obtain ⟨q, d, hq, rfl, rfl⟩ := hrel
        by_cases hqk : q < k
        · have hqk' : (q : Int) < k := by omega
          obtain ⟨b, off, rfl, hcs⟩ := ha.2 (by omega)
          obtain ⟨d0, d1, d2, d3, _⟩ := hcs q hqk
          have e0 := cell_later hbel d0
          have e1 := cell_later hbel d1
          have e2 := cell_later hbel d2
          clear d0 d1 d2 d3 hcs
          obtain ⟨po, pb, pq, hcq, c5, c6, c7, c8, hold_⟩ : ∃ po pb pq, wr.cell? ⟨gb, q, none⟩ = some (.pointer (some ⟨pb, pq, none⟩)) ∧ wr.cell? ⟨pb, pq + 5, none⟩ = some (.pointer po) ∧ wr.cell? ⟨pb, pq + 6, none⟩ = some (.string (K q)) ∧ wr.cell? ⟨pb, pq + 7, none⟩ = some (.int .i64 (I q)) ∧ wr.cell? ⟨pb, pq + 8, none⟩ = some (.int .i64 q) ∧
              Hid (∀ W : World, (∀ b o, W.cell? ⟨b, o, none⟩ = wr.cell? ⟨b, o, none⟩) → Calls Try.prog 10 #[.slice (some ⟨gb, 0, none⟩) q cv, .int .i64 (H q)] W fun e w' => e = .returned (.pointer po) ∧ w' = W) := at_place hps hown hP hqk
          have hneq := neq_same po
          have hqcv : (q : Int) ≤ cv := by omega
          have hq0 : (0 : Int) ≤ q := by omega
          go_wp2_with fail
          refine (place pb pq po (K q) (I q) q (wr.drewN d) c5 c6 c7 c8).mono ?_
          rintro e w2 ⟨rfl, d2, rfl⟩
          go_wp2_with fail
          have y0 : (wr.drewN (d + d2)).cell? ⟨b, off + q * 4, none⟩ = some (.int .i64 (H q)) := e0
          have y1 : (wr.drewN (d + d2)).cell? ⟨b, off + q * 4 + 1, none⟩ = some (.string (K q)) := e1
          have y2 : (wr.drewN (d + d2)).cell? ⟨b, off + q * 4 + 2, none⟩ = some (.int .i64 (I q)) := e2
          have HQ : Hid (∀ n, Calls Try.prog 10 #[.slice (some ⟨gb, 0, none⟩) q cv, .int .i64 (H q)] ((wr.drewN (d + d2)).drewN n) fun e w' => e = .returned (.pointer po) ∧ w' = (wr.drewN (d + d2)).drewN n) := fun n => hold_.out _ (fun _ _ => rfl)
          have HW : Hid (∃ j, wr.drewN (d + d2) = wr.drewN j) := ⟨_, rfl⟩
          generalize wr.drewN (d + d2) = wq at y0 y1 y2 HQ HW ⊢
          go_quiet ((go_at_call 10; exact Calls.quiet_of_same (HQ.out _)))
          obtain ⟨jq, hjq⟩ := HW.out
          subst hjq
          go_wp2
          go_roundw
          case rel => exact ⟨q + 1, _, by omega, by go_num, rfl⟩
          case measure => simp [intOf]; omega
        · go_wp2
          go_ret
          exact ⟨rfl, hbel.os, hbel.tape, hbel.output, hbel.size, hbel.block⟩
end Go.Proofs.Qxb6609531a.placeLaw
