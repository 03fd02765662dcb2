import Derived.Test.Qxb6609531aValues
namespace Go.Proofs.Qxb6609531a.placed
open Go.RowKit take items kept values

/-- the slab's block is one of the call's own -/
def Lo (B : Nat) (s : Value) : Prop := ∀ g n cap, s = .slice (some ⟨g, 0, none⟩) n cap → B ≤ g

/-- what was handed to newValue: the holder's number, the key, the index -/
abbrev Rec := Int × ByteArray × Int

/-- each value stands at its place, numbered -/
def Placed (w : World) (ps : List (Nat × Nat)) (gs : List Rec) : Prop := ∀ j p r, ps[j]? = some p → gs[j]? = some r →
  w.cell? ⟨p.1, p.2 + 5, none⟩ = some (.pointer (hold (ps.take j) r.1)) ∧ w.cell? ⟨p.1, p.2 + 6, none⟩ = some (.string r.2.1) ∧ w.cell? ⟨p.1, p.2 + 7, none⟩ = some (.int .i64 r.2.2) ∧ w.cell? ⟨p.1, p.2 + 8, none⟩ = some (.int .i64 j)

theorem cell_kept {w w' : World} {b t : Nat} {a : Array Value} (hb : w.heap[b]? = some (.cells a t (0, 0))) (hb' : w'.heap[b]? = some (.cells a t (0, 0))) (o : Nat) : w'.cell? ⟨b, o, none⟩ = w.cell? ⟨b, o, none⟩ := by
  simp [World.cell?, hb, hb']

theorem placed_kept {w w' : World} {ps : List (Nat × Nat)} {gs : List Rec} (hP : Placed w ps gs) (hL : Lies 68 w ps) {row : Option Nat} (hg : w.grownBy w' row) (hrow : ∀ b a, row = some b → w.heap[b]? ≠ some (.cells a 68 (0, 0))) : Placed w' ps gs := by
  intro j p r hp hr
  obtain ⟨c, hc⟩ := hL p (List.mem_of_getElem? hp)
  have hc' := block_kept hg hc (fun x => hrow p.1 c x hc)
  have e := cell_kept hc hc'
  rw [e, e, e, e]
  exact hP j p r hp hr

section
variable {pb : Nat} {values first : Int} {vs is : Value} {po : Option Addr} {key : ByteArray} {idx : Int} {w w' : World} {g n cap : Nat}

theorem newV_undrew (hN : NewV pb values first vs is po key idx w.drew w' g n cap) : NewV pb values first vs is po key idx w w' g n cap :=
  { par := hN.par, slab := hN.slab, os := hN.os, tape := hN.tape, output := hN.output, size := hN.size, block := hN.block, old := hN.old, blk := hN.blk, c0 := hN.c0, c1 := hN.c1, c2 := hN.c2, c3 := hN.c3, c4 := hN.c4, c5 := hN.c5, c6 := hN.c6, c7 := hN.c7, c8 := hN.c8, from_ := hN.from_ }

theorem slab_block (hS : Slab 68 9 zV w vs) (h : vs = .slice (some ⟨g, 0, none⟩) n cap) : ∃ c, w.heap[g]? = some (.cells c 68 (0, 0)) := by
  rcases hS with h0 | ⟨g1, n1, cap1, cur1, h1, _, _, _, hb, _⟩
  · rw [h] at h0; simp at h0
  · rw [h] at h1; simp at h1; obtain ⟨rfl, _, _⟩ := h1; exact ⟨cur1, hb⟩

theorem newV_ne (hN : NewV pb values first vs is po key idx w w' g n cap) (hS : Slab 68 9 zV w vs) {b t : Nat} {a : Array Value} (hb : w.heap[b]? = some (.cells a t (0, 0))) (ht : t ≠ 68) : b ≠ g := by
  have hlt := (Array.getElem?_eq_some_iff.1 hb).1
  rintro rfl
  rcases hN.from_ with ⟨h, _⟩ | ⟨h, _⟩
  · obtain ⟨c, hc⟩ := slab_block hS h
    rw [hb] at hc; simp at hc; exact ht hc.2
  · omega

theorem newV_block (hN : NewV pb values first vs is po key idx w w' g n cap) (hpb : w.heap[pb]? = some (.cells (parr values first vs is) 62 (0, 0))) (hS : Slab 68 9 zV w vs) {b t : Nat} {a : Array Value} (hb : w.heap[b]? = some (.cells a t (0, 0))) (ht : t ≠ 68) (ht' : t ≠ 62) : w'.heap[b]? = some (.cells a t (0, 0)) := by
  have hne : b ≠ pb := by rintro rfl; rw [hpb] at hb; simp at hb; exact ht' hb.2.symm
  exact (hN.block b (Array.getElem?_eq_some_iff.1 hb).1 hne (newV_ne hN hS hb ht)).trans hb

theorem newV_own (hN : NewV pb values first vs is po key idx w w' g n cap) (hpb : w.heap[pb]? = some (.cells (parr values first vs is) 62 (0, 0))) (hS : Slab 68 9 zV w vs) {B e m k : Nat} {v : Value} {xs : List Value} (h : w.ownsRow B e m v k xs) (ht : e ≠ 68) (ht' : e ≠ 62) : w'.ownsRow B e m v k xs := by
  refine ⟨h.1, ?_⟩
  rcases h.2 with h0 | ⟨gb, c, cur, rfl, hb, hg, rest⟩
  · exact .inl h0
  · exact .inr ⟨gb, c, cur, rfl, hb, newV_block hN hpb hS hg ht ht', rest⟩

theorem newV_slab (hN : NewV pb values first vs is po key idx w w' g n cap) (hpb : w.heap[pb]? = some (.cells (parr values first vs is) 62 (0, 0))) (hS : Slab 68 9 zV w vs) {E sz : Nat} {z : Array Value} {s : Value} (h : Slab E sz z w s) (ht : E ≠ 68) (ht' : E ≠ 62) : Slab E sz z w' s := by
  rcases h with rfl | ⟨gb, k, c, cur, rfl, h1, h2, h3, h4, rest⟩
  · exact .inl rfl
  · exact .inr ⟨gb, k, c, cur, rfl, h1, h2, h3, newV_block hN hpb hS h4 ht ht', rest⟩

theorem newV_lies (hN : NewV pb values first vs is po key idx w w' g n cap) (hpb : w.heap[pb]? = some (.cells (parr values first vs is) 62 (0, 0))) (hS : Slab 68 9 zV w vs) {E : Nat} {ps : List (Nat × Nat)} (h : Lies E w ps) (ht : E ≠ 68) (ht' : E ≠ 62) : Lies E w' ps := by
  intro p hp
  obtain ⟨c, hc⟩ := h p hp
  exact ⟨c, newV_block hN hpb hS hc ht ht'⟩

theorem newV_below (hN : NewV pb values first vs is po key idx w w' g n cap) {B : Nat} {w0 : World} (hb : Below B w0 w) (hB : B ≤ w.heap.size) (hpb : B ≤ pb) (hlo : Lo B vs) : Below B w0 w' := by
  have hg : B ≤ g := by
    rcases hN.from_ with ⟨h, _⟩ | ⟨h, _⟩
    · exact hlo g n cap h
    · omega
  refine hb.trans ⟨hN.os, hN.tape, hN.output, hN.size, fun k hk => hN.block k (by omega) (by omega) (by omega)⟩

theorem newV_lo (hN : NewV pb values first vs is po key idx w w' g n cap) {B : Nat} (hB : B ≤ w.heap.size) (hlo : Lo B vs) : Lo B (.slice (some ⟨g, 0, none⟩) (n + 1) cap) := by
  intro g' n' cap' e
  simp at e
  obtain ⟨rfl, _, _⟩ := e
  rcases hN.from_ with ⟨h, _⟩ | ⟨h, _⟩
  · exact hlo g n cap h
  · omega

theorem newV_ahead (hN : NewV pb values first vs is po key idx w w' g n cap) {ps : List (Nat × Nat)} (hA : Ahead 9 vs ps) (hL : Lies 68 w ps) :
    (∀ p ∈ ps, p.1 < g ∨ (p.1 = g ∧ p.2 + 9 ≤ n * 9)) ∧ Ahead 9 (.slice (some ⟨g, 0, none⟩) (n + 1) cap) (ps ++ [(g, n * 9)]) := by
  have h1 : ∀ p ∈ ps, p.1 < g ∨ (p.1 = g ∧ p.2 + 9 ≤ n * 9) := by
    intro p hp
    rcases hN.from_ with ⟨h, _⟩ | ⟨h, _⟩
    · rcases hA with rfl | ⟨g0, n0, cap0, hs, hall⟩
      · cases hp
      · rw [hs] at h
        simp at h
        obtain ⟨rfl, rfl, rfl⟩ := h
        exact hall p hp
    · obtain ⟨c, hc⟩ := hL p hp
      have := (Array.getElem?_eq_some_iff.1 hc).1
      left; omega
  refine ⟨h1, .inr ⟨g, n + 1, cap, rfl, ?_⟩⟩
  intro p hp
  rcases List.mem_append.1 hp with hp | hp
  · rcases h1 p hp with h | ⟨h, h'⟩
    · exact .inl h
    · exact .inr ⟨h, by omega⟩
  · simp at hp
    subst hp
    exact .inr ⟨rfl, by simp; omega⟩

theorem newV_lies68 (hN : NewV pb values first vs is po key idx w w' g n cap) (hpb : w.heap[pb]? = some (.cells (parr values first vs is) 62 (0, 0))) {ps : List (Nat × Nat)} (hL : Lies 68 w ps) : Lies 68 w' (ps ++ [(g, n * 9)]) := by
  intro p hp
  rcases List.mem_append.1 hp with hp | hp
  · obtain ⟨c, hc⟩ := hL p hp
    have hne : p.1 ≠ pb := by intro e; rw [e, hpb] at hc; simp at hc
    by_cases hg : p.1 = g
    · rw [hg]; exact hN.blk
    · exact ⟨c, (hN.block p.1 (Array.getElem?_eq_some_iff.1 hc).1 hne hg).trans hc⟩
  · simp at hp
    subst hp
    exact hN.blk

theorem hold_take {ps : List (Nat × Nat)} {q : Nat × Nat} {j : Nat} (hj : j ≤ ps.length) (h : Int) : hold ((ps ++ [q]).take j) h = hold (ps.take j) h := by
  rw [List.take_append_of_le_length hj]

theorem newV_placed {h : Int} {ps : List (Nat × Nat)} {gs : List Rec} (hN : NewV pb values first vs is (hold ps h) key idx w w' g n cap) (hpb : w.heap[pb]? = some (.cells (parr values first vs is) 62 (0, 0))) (hA : Ahead 9 vs ps) (hL : Lies 68 w ps) (hP : Placed w ps gs) (hlen : gs.length = ps.length) (hval : values = ps.length) :
    Placed w' (ps ++ [(g, n * 9)]) (gs ++ [(h, key, idx)]) := by
  intro j p r hp hr
  by_cases hj : j < ps.length
  · rw [List.getElem?_append_left hj] at hp
    rw [List.getElem?_append_left (by omega)] at hr
    rw [hold_take (by omega)]
    have hmem := List.mem_of_getElem? hp
    obtain ⟨c, hc⟩ := hL p hmem
    have hlt := (Array.getElem?_eq_some_iff.1 hc).1
    have hne : p.1 ≠ pb := by intro e; rw [e, hpb] at hc; simp at hc
    have hah := (newV_ahead hN hA hL).1 p hmem
    have e : ∀ o, o < 9 → w'.cell? ⟨p.1, p.2 + o, none⟩ = w.cell? ⟨p.1, p.2 + o, none⟩ := by
      intro o ho
      by_cases hg : p.1 = g
      · rw [hg]
        exact hN.old (p.2 + o) (by omega) (by omega)
      · exact cell_kept hc ((hN.block p.1 hlt hne hg).trans hc) _
    rw [e 5 (by omega), e 6 (by omega), e 7 (by omega), e 8 (by omega)]
    exact hP j p r hp hr
  · have hj' : j = ps.length := by
      have := (List.getElem?_eq_some_iff.1 hp).1
      simp at this; omega
    subst hj'
    rw [List.getElem?_append_right (by omega)] at hp
    rw [List.getElem?_append_right (by omega)] at hr
    simp [hlen] at hp hr
    subst hp hr
    rw [hold_take (Nat.le_refl _), List.take_length]
    refine ⟨hN.c5, hN.c6, hN.c7, ?_⟩
    rw [← hval]
    exact hN.c8
end
end Go.Proofs.Qxb6609531a.placed
