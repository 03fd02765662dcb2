import Derived.Test.Qxb6609531aAll
import Derived.Test.Qxb6609531aStepArgs
import Derived.Deep.RegionHeld3
namespace Go.Proofs.Qxb6609531a.stepLaw
open Go.RowKit take items kept values placed all stepArgs
open placeLaw (info28 make27 own_cells neq_same)
open itemsLaw (info38 found)

theorem info3 : (Try.prog.info? 3).map (fun i => (i.zero, i.size, i.bytes)) = some (some (Value.int .i64 0), 1, 8) := by kernel_rfl

theorem make37 (n : Nat) (hn : n ≤ 65536) (w : World) : (Instr.makeSlice 37 (.int .i64 0) (.int .i64 (n : Int))).run Try.prog w = .ok (.slice (some ⟨w.heap.size, 0, none⟩) 0 n) (w.alloc (.cells (madeCells #[.pointer none] n) 38)) := by
  obtain ⟨i0, hi, hz0, hz1, hz2⟩ := info_parts info38
  have h := run_make (P := Try.prog) w 37 38 i0 _ Try.underlying37 hi hz0 .i64 .i64 0 n (by omega) (by omega) (by rw [hz2]; omega) (by omega)
  rw [hz1] at h
  simpa [Value.cells] using h

theorem make47 (n : Nat) (hn : n ≤ 65536) (w : World) : (Instr.makeSlice 47 (.int .i64 0) (.int .i64 (n : Int))).run Try.prog w = .ok (.slice (some ⟨w.heap.size, 0, none⟩) 0 n) (w.alloc (.cells (madeCells #[.int .i64 0] n) 3)) := by
  obtain ⟨i0, hi, hz0, hz1, hz2⟩ := info_parts info3
  have h := run_make (P := Try.prog) w 47 3 i0 _ Try.underlying47 hi hz0 .i64 .i64 0 n (by omega) (by omega) (by rw [hz2]; omega) (by omega)
  rw [hz1] at h
  simpa [Value.cells] using h

def rec1 (H I : Nat → Int) (K : Nat → ByteArray) (n : Nat) : Rec := (H n, K n, I n)

/-- the state behind k steps -/
def St (w : World) (first : Int) (H I : Nat → Int) (K : Nat → ByteArray) (k : Nat) (vv fv iv : Value) (wr : World) : Prop :=
  ∃ (vs is : Value) (ps qs : List (Nat × Nat)) (fr : List Nat) (ga ca gf cf gi ci : Nat), vv = .slice (some ⟨ga, 0, none⟩) ps.length ca ∧ fv = .slice (some ⟨gf, 0, none⟩) ps.length cf ∧ iv = .slice (some ⟨gi, 0, none⟩) qs.length ci ∧
    All w.heap.size w first vs is vv fv iv ps ps qs qs fr (fr.map (rec1 H I K)) wr ∧ fr.length = ps.length ∧ ps.length ≤ k ∧ qs.length ≤ k ∧ ∀ j ∈ fr, j < k

theorem st_start (w : World) (first : Int) (H I : Nat → Int) (K : Nat → ByteArray) (n : Nat) (hn : n ≤ 4096) :
    St w first H I K 0 (.slice (some ⟨w.heap.size + 1, 0, none⟩) 0 n) (.slice (some ⟨w.heap.size + 1 + 1, 0, none⟩) 0 n) (.slice (some ⟨w.heap.size + 1 + 1 + 1, 0, none⟩) 0 n)
      ((((w.alloc (.cells (parr 0 first (.slice none 0 0) (.slice none 0 0)) 62)).alloc (.cells (madeCells #[.pointer none] n) 28)).alloc (.cells (madeCells #[.int .i64 0] n) 3)).alloc (.cells (madeCells #[.pointer none] n) 38)) := by
  refine ⟨.slice none 0 0, .slice none 0 0, [], [], [], _, _, _, _, _, _, rfl, rfl, rfl, ?_, rfl, Nat.le_refl _, Nat.le_refl _, (fun j hj => by cases hj)⟩
  have hz : ∀ (W : World) (e : Nat) (c : Array Value), w.heap.size ≤ W.heap.size → c.size = n → (W.alloc (.cells c e)).ownsRow w.heap.size e 1 (.slice (some ⟨W.heap.size, 0, none⟩) 0 n) 0 [] := fun W e c h1 h2 => World.ownsRow_made W c n h1 (by unfold maxLen; omega) (by omega)
  have o1 := hz (w.alloc (.cells (parr 0 first (.slice none 0 0) (.slice none 0 0)) 62)) 28 (madeCells #[.pointer none] n) (by simp) (size_madeCells _ _)
  have o2 := hz ((w.alloc (.cells (parr 0 first (.slice none 0 0) (.slice none 0 0)) 62)).alloc (.cells (madeCells #[.pointer none] n) 28)) 3 (madeCells #[.int .i64 0] n) (by simp; omega) (size_madeCells _ _)
  have o3 := hz (((w.alloc (.cells (parr 0 first (.slice none 0 0) (.slice none 0 0)) 62)).alloc (.cells (madeCells #[.pointer none] n) 28)).alloc (.cells (madeCells #[.int .i64 0] n) 3)) 38 (madeCells #[.pointer none] n) (by simp; omega) (size_madeCells _ _)
  have hb := (((((Below.refl w.heap.size w).alloc (Nat.le_refl _) (.cells (parr 0 first (.slice none 0 0) (.slice none 0 0)) 62)).alloc (by simp) (.cells (madeCells #[.pointer none] n) 28)).alloc (by simp; omega) (.cells (madeCells #[.int .i64 0] n) 3)).alloc (by simp; omega) (.cells (madeCells #[.pointer none] n) 38))
  exact ⟨by simpa using (o1.alloc _).alloc _, by simpa using o2.alloc _, by simpa using o3, block_alloc (block_alloc (block_alloc (heap_alloc_new w _) _) _) _, .inl rfl, .inl rfl, (fun g n cap e => by simp at e), .inl rfl, .inl rfl, (fun p hp => by cases hp), (fun p hp => by cases hp), (fun j p r hp => by simp at hp), rfl, hb, Nat.le_refl _⟩

theorem own_nums {w : World} {B gf cf n : Nat} {fr : List Nat} (h : w.ownsRow B 3 1 (.slice (some ⟨gf, 0, none⟩) n cf) fr.length (fr.map num)) (q k : Nat) (hq : fr[q]? = some k) : w.cell? ⟨gf, q, none⟩ = some (.int .i64 k) := by
  have h := h.cells (g := gf) rfl q (num k) (by simp [hq])
  have e : (⟨gf, 0, none⟩ : Addr).add q = ⟨gf, q, none⟩ := by unfold Addr.add; split <;> simp_all
  rw [e] at h
  exact h

theorem at_place {B : Nat} {w0 wr : World} {first : Int} {vs is fv iv : Value} {ga ca q n : Nat} {ps qs : List (Nat × Nat)} {fr : List Nat} {H I : Nat → Int} {K : Nat → ByteArray}
    (h : All B w0 first vs is (.slice (some ⟨ga, 0, none⟩) ps.length ca) fv iv ps ps qs qs fr (fr.map (rec1 H I K)) wr) (hn : fr[q]? = some n) :
    ∃ po pb pq, wr.cell? ⟨ga, q, none⟩ = some (.pointer (some ⟨pb, pq, none⟩)) ∧
      Hid (∀ o : Obj, (wr.alloc o).cell? ⟨pb, pq + 5, none⟩ = some (.pointer po) ∧ (wr.alloc o).cell? ⟨pb, pq + 6, none⟩ = some (.string (K n)) ∧ (wr.alloc o).cell? ⟨pb, pq + 7, none⟩ = some (.int .i64 (I n)) ∧ (wr.alloc o).cell? ⟨pb, pq + 8, none⟩ = some (.int .i64 q)) ∧
      Hid (∀ (o : Obj) (W : World), (∀ b o', W.cell? ⟨b, o', none⟩ = (wr.alloc o).cell? ⟨b, o', none⟩) → Calls Try.prog 10 #[.slice (some ⟨ga, 0, none⟩) q ca, .int .i64 (H n)] W fun e w' => e = .returned (.pointer po) ∧ w' = W) := by
  have hlf : q < fr.length := (List.getElem?_eq_some_iff.1 hn).1
  have hlt : q < ps.length := by have := h.glen; simp at this; omega
  have hp : ps[q]? = some ps[q] := List.getElem?_eq_getElem hlt
  have hr : (fr.map (rec1 H I K))[q]? = some (H n, K n, I n) := by simp [hn, rec1]
  refine ⟨hold (ps.take q) (H n), ps[q].1, ps[q].2, own_cells h.own28 q _ hp, fun o => (h.alloc o).placed q ps[q] (H n, K n, I n) hp hr, ?_⟩
  intro o W hW
  refine holder (ps.take q) ga q ca (H n) W (by rw [List.length_take]; omega) ?_
  intro j p hj
  have hjq : j < q := by have := (List.getElem?_eq_some_iff.1 hj).1; rw [List.length_take] at this; omega
  rw [List.getElem?_take_of_lt hjq] at hj
  rw [hW]
  exact own_cells (h.alloc o).own28 j p hj

set_option maxRecDepth 100000 in
set_option maxHeartbeats 2000000 in
theorem main (first : Int) (a : Option Addr) (len cap : Nat) (T : Nat → Bool) (H I A : Nat → Int) (K : Nat → ByteArray) (h0 : 0 ≤ first) (h1 : first ≤ 512) (hlen : len ≤ 4096) (w : World) (ha : IsSt w a len T H I A K) :
    Calls Try.prog 5 #[.int .i64 first, .slice a len cap] w fun e w' => e = .returned (.bool true) ∧ Below w.heap.size w w' := by
  have hlen' : (len : Int) ≤ 4096 := by omega
  obtain ⟨j0, hj, hj0, hj1, hj2⟩ := info_parts info38
  obtain ⟨i0, hi, hz0, hz1, hz2⟩ := info_parts info28
  obtain ⟨l0, hl, hl0, hl1, hl2⟩ := info_parts info3
  have hq40 : ∀ w, (binOp .neq 40 (.slice none 0 0) (.slice none 0 0)).run Try.prog w = .ok (.bool false) w := fun w => by kernel_rfl
  have hq27 : ∀ w, (binOp .neq 27 (.slice none 0 0) (.slice none 0 0)).run Try.prog w = .ok (.bool false) w := fun w => by kernel_rfl
  have hmk27 := make27 len (by omega)
  have hmk37 := make37 len (by omega)
  have hmk47 := make47 len (by omega)
  go_enter Try.func5, Try.ntmps5
  go_wp2_with fail
  refine (zzBytes first a len cap T H I A K w ha).mono ?_
  rintro e w' ⟨⟨b, rfl⟩, rfl⟩
  cases b
  · go_wp2
    go_ret
    exact ⟨rfl, Below.refl _ _⟩
  go_wp2_with fail
  refine (zzStepBytes a len cap T H I A K _ (by omega) ha).mono ?_
  rintro e w'' ⟨⟨z, rfl⟩, rfl⟩
  by_cases hz : 1048576 < z
  · go_wp2
    go_ret
    exact ⟨rfl, Below.refl _ _⟩
  go_wp2_with fail
  refine (newParser first _).mono ?_
  rintro e w1 ⟨rfl, rfl⟩
  go_wp2
  go_loopw [6, 7, 8, 9] (fun vv fv iv i wr => ∃ k : Nat, k ≤ len ∧ i = .int .i64 k ∧ St w'' first H I K k vv fv iv wr) (fun _ _ _ i _ => len - (intOf i).toNat)
  case atStart => exact ⟨0, Nat.zero_le _, rfl, st_start w'' first H I K len hlen⟩
  case round =>
    obtain ⟨k, hk, rfl, vs, is, ps, qs, fr, ga, ca, gf, cf, gi, ci, rfl, rfl, rfl, hall, hfl, hpk, hqk, hfr⟩ := hrel
    have hB := hall.size
    by_cases hlt : k < len
    · have hlt' : (k : Int) < len := by omega
      obtain ⟨b, off, rfl, hcs⟩ := ha.2 (by omega)
      obtain ⟨d0, d1, d2, d3, d4, _⟩ := hcs k hlt
      have e0 := cell_later hall.below d0
      clear hcs
      by_cases hT0 : T k = true
      · rw [hT0] at e0
        clear d1 d2 d3 d4
        go_wp2_with fail
        refine (zzNewItems w''.heap.size ps.length first vs is h0 h1 wr hall.par hall.slabI).mono ?_
        rintro e w2 ⟨g, m, cap2, cur, rfl, hT⟩
        have hah := (ahead_took hall.aheadI hall.slabI hT).1
        have hall2 := hall.took hT
        have hc0 : w2.cell? ⟨g, m * 3, none⟩ = some (.slice none 0 0) := took_cell hT rfl 0 (by decide)
        have hc2 : w2.cell? ⟨g, m * 3 + 2, none⟩ = some (.slice none 0 0) := took_cell hT rfl 2 (by decide)
        clear hall hT e0
        go_wp2_with fail
        refine (itemsParts g (m * 3) w2 hc0 hc2).mono ?_
        rintro e w3 ⟨rfl, d, rfl⟩
        clear hc0 hc2
        go_wp2
        go_loop [13] (fun j => ∃ q : Nat, q ≤ qs.length ∧ j = .int .i64 q) (fun j => qs.length - (intOf j).toNat)
        case atStart => exact ⟨0, Nat.zero_le _, rfl⟩
        case round =>
          obtain ⟨q, hq, rfl⟩ := hrel
          by_cases hqk' : q < qs.length
          · have hqk'' : (q : Int) < qs.length := by omega
            obtain ⟨b', o', hcq, hpe⟩ : ∃ b o, w2.cell? ⟨gi, q, none⟩ = some (.pointer (some ⟨b, o, none⟩)) ∧ (binOp .eql 38 (.pointer (some ⟨b, o, none⟩)) (.pointer (some ⟨g, m * 3, none⟩))).run Try.prog (w2.drewN d) = .ok (.bool false) (w2.drewN d) :=
              found hall2.own38 hall2.liesI hah q hqk'
            go_wp2
            go_round
            case rel => exact ⟨q + 1, by omega, by go_num⟩
            case measure => simp [intOf]; omega
          · have hall3 := hall2.drewN d
            have hone : ∀ u ∈ [ptr (g, m * 3)], u.oneCell' = true := by intro u hu; simp at hu; subst hu; rfl
            have h63 : qs.length + 1 ≤ maxLen := by unfold maxLen; omega
            have hby : (qs.length + 1) * 8 ≤ 140737488355328 := by omega
            have hbs := fun o => (hall3.alloc o).size
            go_wp2_with (at_builtin; refine wpList_append_own_at _ rfl _ _ 37 rfl w''.heap.size 38 j0 (.pointer none) 1 8 Try.underlying37 hj hj0 hj1 hj2 rfl (by decide) (.slice (some ⟨gi, 0, none⟩) qs.length ci) qs.length (qs.map ptr) rfl (hall3.own38.alloc _) _ 1 1 [ptr (g, m * 3)] rfl rfl (cell_one_new _ _ _) hone h63 hby (hbs _) ?_)
            intro v' w4 hown4 hgrow _ hat
            obtain ⟨gi', ci', rfl⟩ : ∃ gb' cv', v' = .slice (some ⟨gb', 0, none⟩) (qs.length + 1) cv' := by
              rcases hown4.2 with ⟨_, h⟩ | ⟨g', cap', _, h, _⟩
              · omega
              · exact ⟨g', cap', h⟩
            have hall4 := hall3.app38 hgrow hown4
            go_wp2_with fail
            refine (zzValues w''.heap.size ps.length first _ _ w4 hall4.par).mono ?_
            rintro e w5 ⟨rfl, rfl⟩
            go_wp2
            go_roundw
            case rel => exact ⟨k + 1, by omega, by go_num, vs, _, ps, qs ++ [(g, m * 3)], fr, ga, ca, gf, cf, gi', ci', rfl, rfl, by simp, hall4, hfl, by omega, by simp; omega, fun j hj => Nat.lt_succ_of_lt (hfr j hj)⟩
            case measure => simp [intOf]; omega
      · have hT1 : T k = false := by simpa using hT0
        rw [hT1] at e0
        have e1 := cell_later hall.below d1
        have e2 := cell_later hall.below d2
        have e3 := cell_later hall.below d3
        have e4 := cell_later hall.below d4
        have hcell : ∀ j p, ps[j]? = some p → wr.cell? ⟨ga, j, none⟩ = some (ptr p) := own_cells hall.own28
        go_wp2
        go_region_held3 (fun w' => w'.cell? ⟨b, off + k * 5 + 1, none⟩ = some (.int .i64 (H k)) ∧ w'.cell? ⟨b, off + k * 5 + 2, none⟩ = some (.string (K k)) ∧ w'.cell? ⟨b, off + k * 5 + 3, none⟩ = some (.int .i64 (I k)) ∧ w'.cell? ⟨b, off + k * 5 + 4, none⟩ = some (.int .i64 (A k))) (go_keep)
          (first
            | (go_at_call 10; refine (holder ps ga ps.length ca (H k) _ rfl ?_).mono ?_; exact hcell; rintro e w2 ⟨rfl, rfl⟩)
            | (go_at_call 9; refine (newValue w''.heap.size ps.length first vs is (hold ps (H k)) (K k) (I k) (A k) h0 h1 (by omega) (by omega) _ ?_ ?_).mono ?_; exact hall.par; exact hall.slabV; rintro e w3 ⟨g, m, cap3, rfl, hN0⟩; have hN := newV_undrew hN0; clear hN0; have hall3 := hall.newV hN; have x0 := cell_later hall3.below d1; have x1 := cell_later hall3.below d2; have x2 := cell_later hall3.below d3; have x3 := cell_later hall3.below d4))
        go_wp2_with fail
        refine (fresh g (m * 9) w3 hN.c0 hN.c1 hN.c2 hN.c3 hN.c4).mono ?_
        rintro e w3' ⟨rfl, rfl⟩
        clear hN hcell x0 x1 x2 x3 e0 e1 e2 e3 e4 d0 d1 d2 d3 d4 hall
        have hone : ∀ u ∈ [ptr (g, m * 9)], u.oneCell' = true := by intro u hu; simp at hu; subst hu; rfl
        have h63 : ps.length + 1 ≤ maxLen := by unfold maxLen; omega
        have hby : (ps.length + 1) * 8 ≤ 140737488355328 := by omega
        have hbs := fun o => (hall3.alloc o).size
        go_wp2_with (at_builtin; refine wpList_append_own_at _ rfl _ _ 27 rfl w''.heap.size 28 i0 (.pointer none) 1 8 Try.underlying27 hi hz0 hz1 hz2 rfl (by decide) (.slice (some ⟨ga, 0, none⟩) ps.length ca) ps.length (ps.map ptr) rfl (hall3.own28.alloc _) _ 1 1 [ptr (g, m * 9)] rfl rfl (cell_one_new _ _ _) hone h63 hby (hbs _) ?_)
        intro v' w4 hown4 hgrow _ hat
        obtain ⟨ga', ca', rfl⟩ : ∃ gb' cv', v' = .slice (some ⟨gb', 0, none⟩) (ps.length + 1) cv' := by
          rcases hown4.2 with ⟨_, h⟩ | ⟨g', cap', _, h, _⟩
          · omega
          · exact ⟨g', cap', h⟩
        have hall4 := hall3.app28 hgrow hown4
        clear hall3 hown4 hgrow hat hone hbs
        have hone : ∀ u ∈ [num k], u.oneCell' = true := by intro u hu; simp at hu; subst hu; rfl
        have hbs := fun o => (hall4.alloc o).size
        have hown3 : w4.ownsRow w''.heap.size 3 1 (.slice (some ⟨gf, 0, none⟩) ps.length cf) ps.length (fr.map num) := by have := hall4.own3; rwa [hfl] at this
        go_wp2_with (at_builtin; refine wpList_append_own_at _ rfl _ _ 47 rfl w''.heap.size 3 l0 (.int .i64 0) 1 8 Try.underlying47 hl hl0 hl1 hl2 rfl (by decide) (.slice (some ⟨gf, 0, none⟩) ps.length cf) ps.length (fr.map num) rfl (hown3.alloc _) _ 1 1 [num k] rfl rfl (cell_one_new _ _ _) hone h63 hby (hbs _) ?_)
        intro v' w5 hown5 hgrow _ hat
        obtain ⟨gf', cf', rfl⟩ : ∃ gb' cv', v' = .slice (some ⟨gb', 0, none⟩) (ps.length + 1) cv' := by
          rcases hown5.2 with ⟨_, h⟩ | ⟨g', cap', _, h, _⟩
          · omega
          · exact ⟨g', cap', h⟩
        have hall5 := hall4.app3 (k := k) hgrow (by rw [hfl]; exact hown5)
        clear hall4 hown5 hgrow hat hone hbs hown3
        have hpar5 : w5.heap[w''.heap.size]? = some (.cells (parr (ps.length + 1) first (.slice (some ⟨g, 0, none⟩) (m + 1) cap3) is) 62 (0, 0)) := by have := hall5.par; simpa using this
        go_wp2_with fail
        refine (zzValues w''.heap.size (ps.length + 1) first _ _ w5 hpar5).mono ?_
        rintro e w6 ⟨rfl, rfl⟩
        go_wp2
        go_roundw
        case rel => exact ⟨k + 1, by omega, by go_num, _, is, ps ++ [(g, m * 9)], qs, fr ++ [k], ga', ca', gf', cf', gi, ci, by simp, by simp, rfl, by simpa [rec1] using hall5, by simp [hfl], by simp; omega, by omega, fun j hj => by rcases List.mem_append.1 hj with h | h; exact Nat.lt_succ_of_lt (hfr j h); simp at h; omega⟩
        case measure => simp [intOf]; omega
    · obtain rfl : k = len := by omega
      have hcv : (ps.length : Int) ≤ ca := by
        rcases hall.own28.2 with ⟨h, _⟩ | ⟨g', cap', _, h, _, _, h2, _⟩
        · cases h
        · cases h; omega
      go_wp2
      go_loopw [15] (fun i wq => ∃ q : Nat, q ≤ ps.length ∧ i = .int .i64 q ∧ All w''.heap.size w'' first vs is (.slice (some ⟨ga, 0, none⟩) ps.length ca) (.slice (some ⟨gf, 0, none⟩) ps.length cf) (.slice (some ⟨gi, 0, none⟩) qs.length ci) ps ps qs qs fr (fr.map (rec1 H I K)) wq) (fun i _ => ps.length - (intOf i).toNat)
      case atStart => exact ⟨0, Nat.zero_le _, rfl, hall⟩
      case round =>
        obtain ⟨q, hq, rfl, hall'⟩ := hrel
        by_cases hqk' : q < ps.length
        · have hqk'' : (q : Int) < ps.length := by omega
          obtain ⟨n, hn, hnk⟩ : ∃ n, fr[q]? = some n ∧ n < k := by
            have hlt : q < fr.length := by omega
            exact ⟨fr[q], List.getElem?_eq_getElem hlt, hfr _ (List.getElem_mem hlt)⟩
          obtain ⟨b, off, rfl, hcs⟩ := ha.2 (by omega)
          obtain ⟨d0, d1, d2, d3, d4, _⟩ := hcs n hnk
          have e0 := cell_later hall'.below d0
          have e1 := cell_later hall'.below d1
          have e2 := cell_later hall'.below d2
          have e3 := cell_later hall'.below d3
          have e4 := cell_later hall'.below d4
          have hnk' : (n : Int) < k := by omega
          have hfrom : wr.cell? ⟨gf, q, none⟩ = some (.int .i64 n) := own_nums hall'.own3 q n hn
          clear hcs d0 d1 d2 d3 d4
          obtain ⟨po, pb, pq, hcq, hpl, hold_⟩ := at_place hall' hn
          have hneq := neq_same po
          have hqcv : (q : Int) ≤ ca := by omega
          have hq0 : (0 : Int) ≤ q := by omega
          have hga : ga < wr.heap.size := World.block_lt_of_cell? wr _ hcq
          obtain ⟨c5, c6, c7, c8⟩ := hpl.out (.cells #[.bool (T n), .int .i64 (H n), .string (K n), .int .i64 (I n), .int .i64 (A n)] 49)
          go_wp2_with fail
          refine (place pb pq po (K n) (I n) q _ c5 c6 c7 c8).mono ?_
          rintro e w2 ⟨rfl, d2, rfl⟩
          clear c5 c6 c7 c8
          go_wp2_with fail
          have y1 : ((wr.alloc (.cells #[.bool (T n), .int .i64 (H n), .string (K n), .int .i64 (I n), .int .i64 (A n)] 49)).drewN d2).cell? ⟨wr.heap.size, 1, none⟩ = some (.int .i64 (H n)) := cell_at (w := wr.alloc _) (heap_alloc_new wr _) rfl
          have y2 : ((wr.alloc (.cells #[.bool (T n), .int .i64 (H n), .string (K n), .int .i64 (I n), .int .i64 (A n)] 49)).drewN d2).cell? ⟨wr.heap.size, 2, none⟩ = some (.string (K n)) := cell_at (w := wr.alloc _) (heap_alloc_new wr _) rfl
          have y3 : ((wr.alloc (.cells #[.bool (T n), .int .i64 (H n), .string (K n), .int .i64 (I n), .int .i64 (A n)] 49)).drewN d2).cell? ⟨wr.heap.size, 3, none⟩ = some (.int .i64 (I n)) := cell_at (w := wr.alloc _) (heap_alloc_new wr _) rfl
          have HQ : Hid (∀ m, Calls Try.prog 10 #[.slice (some ⟨ga, 0, none⟩) q ca, .int .i64 (H n)] (((wr.alloc (.cells #[.bool (T n), .int .i64 (H n), .string (K n), .int .i64 (I n), .int .i64 (A n)] 49)).drewN d2).drewN m) fun e w' => e = .returned (.pointer po) ∧ w' = ((wr.alloc (.cells #[.bool (T n), .int .i64 (H n), .string (K n), .int .i64 (I n), .int .i64 (A n)] 49)).drewN d2).drewN m) := fun m => hold_.out _ _ (fun _ _ => rfl)
          have HA : Hid (∀ m, All w''.heap.size w'' first vs is (.slice (some ⟨ga, 0, none⟩) ps.length ca) (.slice (some ⟨gf, 0, none⟩) ps.length cf) (.slice (some ⟨gi, 0, none⟩) qs.length ci) ps ps qs qs fr (fr.map (rec1 H I K)) (((wr.alloc (.cells #[.bool (T n), .int .i64 (H n), .string (K n), .int .i64 (I n), .int .i64 (A n)] 49)).drewN d2).drewN m)) := fun m => ((hall'.alloc _).drewN d2).drewN m
          generalize (wr.alloc (.cells #[.bool (T n), .int .i64 (H n), .string (K n), .int .i64 (I n), .int .i64 (A n)] 49)).drewN d2 = W at y1 y2 y3 HQ HA ⊢
          go_quiet ((go_at_call 10; exact Calls.quiet_of_same (HQ.out _)))
          go_wp2
          go_roundw
          case rel => exact ⟨q + 1, by omega, by go_num, HA.out _⟩
          case measure => simp [intOf]; omega
        · go_wp2
          go_ret
          exact ⟨rfl, hall'.below⟩
end Go.Proofs.Qxb6609531a.stepLaw
