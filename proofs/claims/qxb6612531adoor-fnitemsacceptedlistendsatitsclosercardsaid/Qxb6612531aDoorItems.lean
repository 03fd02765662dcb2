import Derived.Test.Qxb6612531aDoorRead
import Derived.Laws.CopyOwn
import Derived.Deep.OwnRows
namespace Go.Proofs.Qxb6612531aDoor.itemsLaw
open Go.RowKit read

/-! ### the plain law -/
theorem skip_cut (t : Nat → Int) (L L' : Nat) (hL : L' ≤ L) : ∀ n p, n = L - p → p ≤ L → skip t L p < L' → skip t L' p = skip t L p := by
  intro n
  induction n with
  | zero =>
    intro p hn hp h
    have := (skip_le t L p hp).1
    omega
  | succ n ih =>
    intro p hn hp h
    have hle := (skip_le t L p hp).1
    by_cases hs : sp (t p) = true
    · rw [skip_yes t L p (by omega) hs] at h ⊢
      have hle2 := (skip_le t L (p + 1) (by omega)).1
      rw [skip_yes t L' p (by omega) hs]
      exact ih (p + 1) (by omega) (by omega) h
    · have hs' : sp (t p) = false := by simpa using hs
      rw [skip_no t L p hs', skip_no t L' p hs']

theorem loopP_bounds (t : Nat → Int) (L : Nat) (e : Int) : ∀ f p, p ≤ L → p ≤ (loopP t L e f p).2 ∧ (loopP t L e f p).2 ≤ L := by
  intro f
  induction f with
  | zero => intro p hp; exact ⟨Nat.le_refl _, hp⟩
  | succ f ih =>
    intro p hp
    rw [loopP_eq]
    split
    · rename_i h1
      have hs := skip_le t L (p + 1) (by omega)
      split
      · rename_i h2
        have hs2 := skip_le t L (skip t L (p + 1) + 1) (by omega)
        have := ih (skip t L (skip t L (p + 1) + 1)) hs2.2
        omega
      · split
        · rename_i h3; exact ⟨by simp; omega, by simp; omega⟩
        · exact ⟨by simp; omega, by simp; omega⟩
    · exact ⟨Nat.le_refl _, hp⟩

theorem loopP_cut (t : Nat → Int) (L : Nat) (e : Int) (q : Nat) : ∀ f p, p ≤ L → loopP t L e f p = (false, q) → p < q ∧ q ≤ L ∧ t (q - 1) = e ∧ loopP t q e f p = (false, q) := by
  intro f
  induction f with
  | zero => intro p hp h; simp [loopP] at h
  | succ f ih =>
    intro p hp h
    rw [loopP_eq] at h
    rw [loopP_eq]
    by_cases h1 : p < L ∧ t p = 118
    · rw [if_pos h1] at h
      have hs := skip_le t L (p + 1) (by omega)
      by_cases h2 : skip t L (p + 1) < L ∧ t (skip t L (p + 1)) = 44
      · rw [if_pos h2] at h
        have hs2 := skip_le t L (skip t L (p + 1) + 1) (by omega)
        obtain ⟨a, b, c, d⟩ := ih _ hs2.2 h
        have e1 : skip t q (p + 1) = skip t L (p + 1) := skip_cut t L q b _ (p + 1) rfl (by omega) (by omega)
        have e2 : skip t q (skip t L (p + 1) + 1) = skip t L (skip t L (p + 1) + 1) := skip_cut t L q b _ _ rfl (by omega) a
        refine ⟨by omega, b, c, ?_⟩
        rw [if_pos ⟨by omega, h1.2⟩, e1, if_pos ⟨by omega, h2.2⟩, e2]
        exact d
      · rw [if_neg h2] at h
        by_cases h3 : skip t L (p + 1) < L ∧ t (skip t L (p + 1)) = e
        · rw [if_pos h3] at h
          have hq : skip t L (p + 1) + 1 = q := by simpa using h
          have e1 : skip t q (p + 1) = skip t L (p + 1) := skip_cut t L q (by omega) _ (p + 1) rfl (by omega) (by omega)
          refine ⟨by omega, by omega, by rw [← hq, Nat.add_sub_cancel]; exact h3.2, ?_⟩
          rw [if_pos ⟨by omega, h1.2⟩, e1, if_neg (fun hh => h2 ⟨h3.1, hh.2⟩), if_pos ⟨by omega, h3.2⟩, hq]
        · rw [if_neg h3] at h; simp at h
    · rw [if_neg h1] at h; simp at h

theorem itemsP_bounds (t : Nat → Int) (L : Nat) (e : Int) (p : Nat) (hp : p ≤ L) : p ≤ (itemsP t L e p).2 ∧ (itemsP t L e p).2 ≤ L := by
  have hs := skip_le t L p hp
  rw [itemsP_eq]
  split
  · rename_i h; exact ⟨by simp; omega, by simp; omega⟩
  · have := loopP_bounds t L e 1048577 (skip t L p) hs.2
    omega

theorem itemsP_cut (t : Nat → Int) (L : Nat) (e : Int) (p q : Nat) (hp : p ≤ L) (h : itemsP t L e p = (false, q)) : p < q ∧ q ≤ L ∧ t (q - 1) = e ∧ itemsP t q e p = (false, q) := by
  have hs := skip_le t L p hp
  rw [itemsP_eq] at h
  rw [itemsP_eq]
  by_cases h1 : skip t L p < L ∧ t (skip t L p) = e
  · rw [if_pos h1] at h
    have hq : skip t L p + 1 = q := by simpa using h
    have e1 : skip t q p = skip t L p := skip_cut t L q (by omega) _ p rfl hp (by omega)
    refine ⟨by omega, by omega, by rw [← hq, Nat.add_sub_cancel]; exact h1.2, ?_⟩
    rw [e1, if_pos ⟨by omega, h1.2⟩, hq]
  · rw [if_neg h1] at h
    obtain ⟨a, b, c, d⟩ := loopP_cut t L e q _ _ hs.2 h
    have e1 : skip t q p = skip t L p := skip_cut t L q b _ p rfl hp a
    refine ⟨by omega, b, c, ?_⟩
    rw [e1, if_neg (fun hh => h1 ⟨by omega, hh.2⟩)]
    exact d

/-- at the greatest depth all is refused -/
def resP (t : Nat → Int) (L : Nat) (e : Int) (p : Nat) (dp : Int) : Bool × Nat := if dp < 10000 then itemsP t L e p else (true, p)

theorem resP_bounds (t : Nat → Int) (L : Nat) (e : Int) (p : Nat) (dp : Int) (hp : p ≤ L) : p ≤ (resP t L e p dp).2 ∧ (resP t L e p dp).2 ≤ L := by
  unfold resP
  split
  · exact itemsP_bounds t L e p hp
  · exact ⟨Nat.le_refl _, hp⟩

theorem resP_cut (t : Nat → Int) (L : Nat) (e : Int) (p q : Nat) (dp : Int) (hp : p ≤ L) (h : resP t L e p dp = (false, q)) : p < q ∧ q ≤ L ∧ t (q - 1) = e ∧ resP t q e p dp = (false, q) := by
  unfold resP at h ⊢
  split at h
  · rename_i hd
    rw [if_pos hd]
    exact itemsP_cut t L e p q hp h
  · simp at h

/-! ### the walks -/
set_option maxHeartbeats 1000000 in
theorem items_full (rb tb vb : Nat) (ts : Option Addr) (t : Nat → Int) (L cap p : Nat) (e : Int) (ev : Addr) (w : World) (h : Rd w rb tb ts t L cap p 10000) (he : w.cell? ⟨0, 0, none⟩ = some (err ev)) :
    Calls Tryd.prog 11 #[.pointer (some ⟨rb, 0, none⟩), .int .u8 e, .func (.func 12) #[] #[.pointer (some ⟨vb, 0, none⟩)]] w fun r w' => read.Left rb tb ts t L cap 10000 ev (true, p) w r w' := by
  unfold err at he
  go_enter Tryd.func11, Tryd.ntmps11
  go_wp2_with fail
  refine (enter_full rb tb ts t L cap p ev w h he).mono ?_
  rintro e w1 ⟨rfl, hR1, hg1⟩
  go_wp2
  go_ret
  exact ⟨rfl, hR1, hg1⟩

theorem items_any (rb tb vb : Nat) (ts : Option Addr) (t : Nat → Int) (L cap p : Nat) (dp e : Int) (ev : Addr) (w : World) (h : Rd w rb tb ts t L cap p dp) (hL : L ≤ 1048576) (hp : p ≤ L) (hd0 : 0 ≤ dp) (hd1 : dp ≤ 10000) (hv : w.heap[vb]? = some (.cells #[.pointer (some ⟨rb, 0, none⟩)] 37 (0, 0))) (hrb : 0 < rb) (he : w.cell? ⟨0, 0, none⟩ = some (err ev)) :
    Calls Tryd.prog 11 #[.pointer (some ⟨rb, 0, none⟩), .int .u8 e, .func (.func 12) #[] #[.pointer (some ⟨vb, 0, none⟩)]] w fun r w' => read.Left rb tb ts t L cap dp ev (resP t L e p dp) w r w' := by
  unfold resP
  by_cases hd : dp < 10000
  · rw [if_pos hd]
    exact items rb tb vb ts t L cap p dp e ev w h hL hp hd0 hd hv hrb he
  · rw [if_neg hd]
    obtain rfl : dp = 10000 := by omega
    exact items_full rb tb vb ts t L cap p e ev w h he

/-- a text that lies in block tb -/
structure Txt (w : World) (tb : Nat) (ts : Option Addr) (t : Nat → Int) (L : Nat) : Prop where
  adr : 0 < L → ts = some ⟨tb, 0, none⟩
  byt : ∀ i, i < L → ∃ c, w.heap[tb]? = some (.cells c 5 (0, 0)) ∧ c[i]? = some (.int .u8 (t i))

set_option maxHeartbeats 1000000 in
theorem zzItems (tb : Nat) (ts : Option Addr) (t : Nat → Int) (L cap p : Nat) (dp e : Int) (ev : Addr) (w : World) (h : Txt w tb ts t L) (hL : L ≤ 1048576) (hp : p ≤ L) (hd0 : 0 ≤ dp) (hd1 : dp ≤ 10000) (he : w.cell? ⟨0, 0, none⟩ = some (err ev)) :
    Calls Tryd.prog 8 #[.slice ts L cap, .int .i64 p, .int .i64 dp, .int .u8 e] w fun r w' => r = .returned (.tuple #[.bool (resP t L e p dp).1, .int .i64 (resP t L e p dp).2, .int .i64 (depOf (resP t L e p dp).1 dp)]) ∧ Below w.heap.size w w' := by
  have hw : 0 < w.heap.size := by
    rcases Nat.eq_zero_or_pos w.heap.size with h0 | h
    · simp [World.cell?, h0] at he
    · exact h
  go_enter Tryd.func8, Tryd.ntmps8
  go_wp2_with fail
  have hb : Below w.heap.size w ((w.alloc (.cells #[.slice ts L cap, .int .i64 p, .int .i64 dp] 39)).alloc (.cells #[.pointer (some ⟨w.heap.size, 0, none⟩)] 37)) := ((Below.refl _ w).alloc (Nat.le_refl _) _).alloc (by simp) _
  have hR : Rd ((w.alloc (.cells #[.slice ts L cap, .int .i64 p, .int .i64 dp] 39)).alloc (.cells #[.pointer (some ⟨w.heap.size, 0, none⟩)] 37)) w.heap.size tb ts t L cap p dp := by
    refine ⟨(Below.heap_alloc _ _ _ (by simp)).trans (heap_alloc_new w _), h.adr, fun i hi => ?_⟩
    obtain ⟨c, h1, h2⟩ := h.byt i hi
    exact ⟨c, (hb.block tb (Array.getElem?_eq_some_iff.1 h1).1).trans h1, h2⟩
  have hv : ((w.alloc (.cells #[.slice ts L cap, .int .i64 p, .int .i64 dp] 39)).alloc (.cells #[.pointer (some ⟨w.heap.size, 0, none⟩)] 37)).heap[w.heap.size + 1]? = some (.cells #[.pointer (some ⟨w.heap.size, 0, none⟩)] 37 (0, 0)) := by
    have := heap_alloc_new (w.alloc (.cells #[.slice ts L cap, .int .i64 p, .int .i64 dp] 39)) (.cells #[.pointer (some ⟨w.heap.size, 0, none⟩)] 37)
    simpa using this
  refine (items_any w.heap.size tb (w.heap.size + 1) ts t L cap p dp e ev _ hR hL hp hd0 hd1 hv hw (cell_later hb he)).mono ?_
  rintro r w1 ⟨rfl, hR1, hg1⟩
  have hv1 := block_kept hg1 hv (by simp)
  have hv0 := cell_at hv1 (o := 0) (v := .pointer (some ⟨w.heap.size, 0, none⟩)) rfl
  have hc1 := hR1.c1
  have hc2 := hR1.c2
  have hb1 : Below w.heap.size w w1 := hb.grown hg1 hb.size (fun k e => by cases e; exact Nat.le_refl _)
  obtain ⟨b, q, hbq⟩ : ∃ b q, resP t L e p dp = (b, q) := ⟨_, _, rfl⟩
  rw [hbq] at hc1 hc2 ⊢
  have HB : Hid (resP t L e p dp = (b, q)) := hbq
  clear hR1 hv1 hR hv hbq
  cases b
  all_goals
    unfold errOf
    try unfold err
    go_wp2
    go_quiet (fail)
    go_wp2
    go_ret3
    rw [HB.out]
    exact ⟨rfl, hb1.os, hb1.tape, hb1.output, hb1.size, hb1.block⟩

set_option maxHeartbeats 400000 in
theorem zzBytes (a : Option Addr) (len cap : Nat) (p dp e : Int) (hl : len ≤ 9223372036854775807) (w : World) :
    Calls Tryd.prog 7 #[.slice a len cap, .int .i64 p, .int .i64 dp, .int .u8 e] w fun e w' => (∃ b, e = .returned (.bool b)) ∧ w = w' := by
  go_enter Tryd.func7, Tryd.ntmps7
  go_wp2
  all_goals (go_ret; exact ⟨⟨_, rfl⟩, rfl⟩)

theorem info5 : (Tryd.prog.info? 5).map (fun i => (i.zero, i.size, i.bytes)) = some (some (Value.int IntKind.u8 0), 1, 1) := by kernel_rfl
theorem size5 : (Tryd.prog.info? 5).map (·.size) = some 1 := by kernel_rfl
def vals (zs : List Int) : List Value := zs.map (Value.int .u8)
theorem ret_bool {b : Bool} (h : b = true) : Ending.returned (.bool b) = .returned (.bool true) := by rw [h]

/-- the copy that the law makes first -/
theorem copied (x : Addr) (len cap : Nat) (zs : List Int) (hl : zs.length = len) (w : World) (hz : ∀ i, i < zs.length → w.cell? (x.add i) = some (.int .u8 (zs.getD i 0))) :
    ∃ w1, (Builtin.copy_ #[25, 25] 3 #[.slice (some ⟨w.heap.size, 0, none⟩) len len, .slice (some x) len cap]).run Tryd.prog (w.alloc (.cells (madeCells #[.int .u8 0] len) 5)) = .ok (goInt len) w1 ∧
      Hid (w1.heap[w.heap.size]? = some (.cells (vals zs).toArray 5 (0, 0)) ∧ Below w.heap.size w w1) := by
  have hlv : (vals zs).length = len := by simp [vals, hl]
  have hsrc : ∀ j v, (vals zs)[j]? = some v → (w.alloc (.cells (madeCells #[.int .u8 0] len) 5)).cell? (x.add j) = some v := by
    intro j v hj
    simp only [vals, List.getElem?_map] at hj
    obtain ⟨z, hz1, rfl⟩ := Option.map_eq_some_iff.1 hj
    have hjl : j < zs.length := (List.getElem?_eq_some_iff.1 hz1).1
    have h := hz j hjl
    rw [List.getD, hz1] at h
    exact cell_later ((Below.refl _ w).alloc (Nat.le_refl _) _) h
  have hr := run_copy_row (P := Tryd.prog) (w.alloc (.cells (madeCells #[.int .u8 0] len) 5)) 25 25 3 5 w.heap.size 0 len len x len cap (madeCells #[.int .u8 0] len) 5 (vals zs) Tryd.underlying25 size5
    (heap_alloc_new w _) (by rw [hlv]; simp) hsrc (by rw [size_madeCells, hlv]; omega) (by intro v hv; simp only [vals, List.mem_map] at hv; obtain ⟨z, _, rfl⟩ := hv; rfl)
  rw [hlv] at hr
  refine ⟨_, hr, ?_, ?_⟩
  · rw [setRow_heap _ _ _ _ _ _ (heap_alloc_new w _)]
    have hd : (madeCells #[Value.int .u8 0] len).toList.drop (0 + len) = [] := by
      apply List.drop_of_length_le; simp [size_madeCells]
    rw [hd]; simp
  · exact below_setRow ((Below.refl _ w).alloc (Nat.le_refl _) _) (Nat.le_refl _) _

set_option maxRecDepth 100000 in
set_option maxHeartbeats 2000000 in
theorem law_some (x : Addr) (len cap p : Nat) (dp e : Int) (zs : List Int) (ev : Addr) (hl : zs.length = len) (hlen : len ≤ 1048576) (hp : p ≤ len) (hd0 : 0 ≤ dp) (hd1 : dp ≤ 10000) (w : World) (hz : ∀ i, i < zs.length → w.cell? (x.add i) = some (.int .u8 (zs.getD i 0))) (he : w.cell? ⟨0, 0, none⟩ = some (err ev)) :
    Calls Tryd.prog 4 #[.slice (some x) len cap, .int .i64 p, .int .i64 dp, .int .u8 e] w fun r w' => r = .returned (.bool true) ∧ Below w.heap.size w w' := by
  have hnil : ∀ (w : World) (a : Option Addr) (n c n' c' : Nat), (binOp .neq 25 (.slice a n c) (.slice none n' c')).run Tryd.prog w = .ok (.bool (!a.isNone)) w := fun w a n c n' c' => run_neq_slice_nil_any w 25 5 a n c n' c' Tryd.underlying25
  have hmk := run_make_row' (P := Tryd.prog) 25 5 (.int .u8 0) 1 Tryd.underlying25 info5 rfl .i64 .i64 len (by omega) (by omega)
  obtain ⟨W, hcp, HW⟩ := copied x len cap zs hl w hz
  obtain ⟨t, ht⟩ : ∃ t, t = fun i => zs.getD i 0 := ⟨_, rfl⟩
  have hT : Txt W w.heap.size (some ⟨w.heap.size, 0, none⟩) t len := by
    subst ht
    refine ⟨fun _ => rfl, fun i hi => ⟨_, HW.out.1, ?_⟩⟩
    simp [vals, List.getElem?_eq_getElem (show i < zs.length by omega), List.getD]
  clear ht hz
  have hbW : Below w.heap.size w W := HW.out.2
  have heW := cell_later hbW he
  clear HW he
  have hlen' : (len : Int) ≤ 1048576 := by omega
  have hp' : (p : Int) ≤ len := by omega
  go_enter Tryd.func4, Tryd.ntmps4
  go_wp2_with fail
  refine (zzBytes _ len cap p dp e (by omega) w).mono ?_
  rintro r w' ⟨⟨b, rfl⟩, rfl⟩
  cases b
  · go_wp2
    go_ret
    exact ⟨rfl, Below.refl _ _⟩
  obtain ⟨b, q, hbq⟩ : ∃ b q, resP t len e p dp = (b, q) := ⟨_, _, rfl⟩
  have hbd := resP_bounds t len e p dp hp
  go_wp2_with fail
  refine (zzItems w.heap.size (some ⟨w.heap.size, 0, none⟩) t len len p dp e ev W hT hlen hp hd0 hd1 heW).mono ?_
  rintro r w2 ⟨hr, hb2⟩
  rw [hbq] at hr hbd
  cases b
  · obtain ⟨a1, a2, a3, a4⟩ := resP_cut t len e p q dp hp hbq
    obtain ⟨m, rfl⟩ : ∃ m, q = m + 1 := ⟨q - 1, by omega⟩
    have hr' : r = .returned (.tuple #[.bool false, .int .i64 ((m : Int) + 1), .int .i64 dp]) := hr
    subst hr'
    have hT2 : Txt w2 w.heap.size (some ⟨w.heap.size, 0, none⟩) t (m + 1) := ⟨fun _ => rfl, fun i hi => by obtain ⟨c, c1, c2⟩ := hT.byt i (by omega); exact ⟨c, (hb2.block w.heap.size (Array.getElem?_eq_some_iff.1 c1).1).trans c1, c2⟩⟩
    have hcm : w2.cell? ⟨w.heap.size, m, none⟩ = some (.int .u8 e) := by obtain ⟨c, c1, c2⟩ := hT2.byt m (by omega); rw [Nat.add_sub_cancel] at a3; rw [← a3]; exact cell_at c1 c2
    have he2 := cell_later hb2 heW
    have i1 : (p : Int) < (m : Int) + 1 := by omega
    have i2 : (m : Int) + 1 ≤ len := by omega
    have i3 : (len : Int) ≤ len := by omega
    clear hr hbq hbd a3
    go_wp2_with fail
    refine (zzItems w.heap.size (some ⟨w.heap.size, 0, none⟩) t (m + 1) len p dp e ev w2 hT2 (by omega) (by omega) hd0 hd1 he2).mono ?_
    rintro r w3 ⟨hr, hb3⟩
    rw [a4] at hr
    have hr' : r = .returned (.tuple #[.bool false, .int .i64 ((m : Int) + 1), .int .i64 dp]) := hr
    subst hr'
    clear hr a4
    go_wp2
    go_ret
    exact ⟨rfl, hbW.trans ((hb2.mono hbW.size).trans (hb3.mono (Nat.le_trans hbW.size hb2.size)))⟩
  · have hr' : r = .returned (.tuple #[.bool true, .int .i64 (q : Int), .int .i64 (dp + 1)]) := hr
    subst hr'
    have i1 : (p : Int) ≤ q := by have := hbd.1; simp at this; omega
    have i2 : (q : Int) ≤ len := by have := hbd.2; simp at this; omega
    clear hr hbq hbd
    go_wp2
    go_ret
    exact ⟨ret_bool (by first | rfl | (simp; omega)), hbW.trans (hb2.mono hbW.size)⟩

set_option maxRecDepth 100000 in
set_option maxHeartbeats 2000000 in
theorem law_nil (p : Nat) (dp e : Int) (ev : Addr) (hp : p ≤ 0) (hd0 : 0 ≤ dp) (hd1 : dp ≤ 10000) (w : World) (he : w.cell? ⟨0, 0, none⟩ = some (err ev)) :
    Calls Tryd.prog 4 #[.slice none 0 0, .int .i64 p, .int .i64 dp, .int .u8 e] w fun r w' => r = .returned (.bool true) ∧ Below w.heap.size w w' := by
  have hnil : ∀ (w : World) (a : Option Addr) (n c n' c' : Nat), (binOp .neq 25 (.slice a n c) (.slice none n' c')).run Tryd.prog w = .ok (.bool (!a.isNone)) w := fun w a n c n' c' => run_neq_slice_nil_any w 25 5 a n c n' c' Tryd.underlying25
  have hT : Txt w 0 none (fun _ => 0) 0 := ⟨fun h => by omega, fun i hi => by omega⟩
  have hp' : (p : Int) ≤ 0 := by omega
  go_enter Tryd.func4, Tryd.ntmps4
  go_wp2_with fail
  refine (zzBytes _ 0 0 p dp e (by omega) w).mono ?_
  rintro r w' ⟨⟨b, rfl⟩, rfl⟩
  cases b
  · go_wp2
    go_ret
    exact ⟨rfl, Below.refl _ _⟩
  obtain ⟨b, q, hbq⟩ : ∃ b q, resP (fun _ => 0) 0 e p dp = (b, q) := ⟨_, _, rfl⟩
  have hbd := resP_bounds (fun _ => 0) 0 e p dp hp
  go_wp2_with fail
  refine (zzItems 0 none (fun _ => 0) 0 0 p dp e ev w hT (by omega) hp hd0 hd1 he).mono ?_
  rintro r w2 ⟨hr, hb2⟩
  rw [hbq] at hr hbd
  cases b
  · have := resP_cut (fun _ => 0) 0 e p q dp hp hbq
    omega
  · have hr' : r = .returned (.tuple #[.bool true, .int .i64 (q : Int), .int .i64 (dp + 1)]) := hr
    subst hr'
    have i1 : (p : Int) ≤ q := by have := hbd.1; simp at this; omega
    have i2 : (q : Int) ≤ 0 := by have := hbd.2; simp at this; omega
    clear hr hbq hbd
    go_wp2
    go_ret
    exact ⟨ret_bool (by first | rfl | (simp; omega)), hb2⟩

end Go.Proofs.Qxb6612531aDoor.itemsLaw
