import Derived.Test.Qxb6609531aItems
import Derived.LaidEqlPtr
namespace Go.Proofs.Qxb6609531a.kept
open Go.RowKit take items

section
variable {E sz : Nat} {z : Array Value} {w w' : World} {s : Value} {pb : Nat} {arr : Array Value} {B e m n : Nat} {v : Value} {xs : List Value}

theorem own_ne_block (h : w.ownsRow B e m v n xs) {b t : Nat} {a : Array Value} (hb : w.heap[b]? = some (.cells a t (0, 0))) (hne : e ≠ t) : v.ownBlock ≠ some b := by
  rcases h.2 with ⟨rfl, _⟩ | ⟨g, cap, cur, rfl, _, hg, _⟩
  · simp [Value.ownBlock]
  · intro he
    simp [Value.ownBlock] at he
    subst he
    rw [hg] at hb
    simp at hb
    exact hne hb.2

theorem block_kept {row : Option Nat} (hg : w.grownBy w' row) {b t : Nat} {a : Array Value} (hb : w.heap[b]? = some (.cells a t (0, 0))) (hne : row ≠ some b) : w'.heap[b]? = some (.cells a t (0, 0)) :=
  (hg.block b (Array.getElem?_eq_some_iff.1 hb).1 (fun x => hne x.symm)).trans hb

theorem block_own (hg : w.grownBy w' v.ownBlock) (h : w.ownsRow B e m v n xs) {b t : Nat} {a : Array Value} (hb : w.heap[b]? = some (.cells a t (0, 0))) (hne : e ≠ t) : w'.heap[b]? = some (.cells a t (0, 0)) :=
  block_kept hg hb (own_ne_block h hb hne)

theorem block_alloc {b t : Nat} {a : Array Value} (hb : w.heap[b]? = some (.cells a t (0, 0))) (o : Obj) : (w.alloc o).heap[b]? = some (.cells a t (0, 0)) :=
  block_kept (World.grownBy_alloc w o none) hb (by simp)

theorem slab_own (hS : Slab E sz z w s) (hg : w.grownBy w' v.ownBlock) (h : w.ownsRow B e m v n xs) (hne : e ≠ E) : Slab E sz z w' s := by
  rcases hS with rfl | ⟨g, k, cap, cur, rfl, h1, h2, h3, h4, rest⟩
  · exact .inl rfl
  · exact .inr ⟨g, k, cap, cur, rfl, h1, h2, h3, block_own hg h h4 hne, rest⟩

theorem slab_kept (hS : Slab E sz z w s) {row : Option Nat} (hg : w.grownBy w' row) (hrow : ∀ b a, row = some b → w.heap[b]? ≠ some (.cells a E (0, 0))) : Slab E sz z w' s := by
  rcases hS with rfl | ⟨g, k, cap, cur, rfl, h1, h2, h3, h4, rest⟩
  · exact .inl rfl
  · exact .inr ⟨g, k, cap, cur, rfl, h1, h2, h3, block_kept hg h4 (fun x => hrow g cur x h4), rest⟩

theorem slab_alloc (hS : Slab E sz z w s) (o : Obj) : Slab E sz z (w.alloc o) s := slab_kept hS (World.grownBy_alloc w o none) (fun _ _ h => by cases h)

theorem own_par (h : w.ownsRow B e m v n xs) (hg : w.grownBy w' (some pb)) (hpb : w.heap[pb]? = some (.cells arr 62 (0, 0))) (hne : e ≠ 62) : w'.ownsRow B e m v n xs :=
  h.kept hg (.inr (own_ne_block h hpb hne))
end

/-- the pointers p are all ahead of the slab's frontier -/
def Ahead (sz : Nat) (s : Value) (ps : List (Nat × Nat)) : Prop :=
  ps = [] ∨ ∃ g n cap, s = .slice (some ⟨g, 0, none⟩) n cap ∧ ∀ p ∈ ps, p.1 < g ∨ (p.1 = g ∧ p.2 + sz ≤ n * sz)

def ptr (p : Nat × Nat) : Value := .pointer (some ⟨p.1, p.2, none⟩)

theorem ahead_took {E sz : Nat} {z : Array Value} {pb k : Nat} {arr : Array Value} {s : Value} {w w' : World} {g n cap : Nat} {cur : Array Value} {ps : List (Nat × Nat)} (hA : Ahead sz s ps) (hS : Slab E sz z w s) (h : Took E sz z pb k arr s w w' g n cap cur) :
    (∀ p ∈ ps, p.1 < g ∨ (p.1 = g ∧ p.2 + sz ≤ n * sz)) ∧ Ahead sz (.slice (some ⟨g, 0, none⟩) (n + 1) cap) (ps ++ [(g, n * sz)]) := by
  have h1 : ∀ p ∈ ps, p.1 < g ∨ (p.1 = g ∧ p.2 + sz ≤ n * sz) := by
    intro p hp
    rcases hA with rfl | ⟨g0, n0, cap0, hs, hall⟩
    · cases hp
    · rcases h.from_ with ⟨hs', _⟩ | ⟨hg, hn⟩
      · rw [hs] at hs'
        simp at hs'
        obtain ⟨rfl, rfl, rfl⟩ := hs'
        exact hall p hp
      · have hlt : g0 < w.heap.size := by
          rcases hS with h0 | ⟨g1, n1, cap1, cur1, h1, _, _, _, hb, _⟩
          · rw [hs] at h0; simp at h0
          · rw [hs] at h1; simp at h1
            obtain ⟨rfl, _, _⟩ := h1
            exact (Array.getElem?_eq_some_iff.1 hb).1
        have := hall p hp
        left; omega
  refine ⟨h1, .inr ⟨g, n + 1, cap, rfl, ?_⟩⟩
  intro p hp
  rcases List.mem_append.1 hp with hp | hp
  · rcases h1 p hp with h | ⟨h, h'⟩
    · exact .inl h
    · refine .inr ⟨h, ?_⟩
      rw [Nat.add_mul]; omega
  · simp at hp
    subst hp
    exact .inr ⟨rfl, by rw [Nat.add_mul]; simp⟩

/-- each pointer leads into a block of elements E -/
def Lies (E : Nat) (w : World) (ps : List (Nat × Nat)) : Prop := ∀ p ∈ ps, ∃ c, w.heap[p.1]? = some (.cells c E (0, 0))

theorem lies_kept {E : Nat} {w w' : World} {ps : List (Nat × Nat)} (h : Lies E w ps) {row : Option Nat} (hg : w.grownBy w' row) (hrow : ∀ b a, row = some b → w.heap[b]? ≠ some (.cells a E (0, 0))) : Lies E w' ps := by
  intro p hp
  obtain ⟨c, hc⟩ := h p hp
  exact ⟨c, block_kept hg hc (fun x => hrow p.1 c x hc)⟩

theorem par_not {w : World} {pb : Nat} {arr : Array Value} (hpb : w.heap[pb]? = some (.cells arr 62 (0, 0))) {E : Nat} (hE : E ≠ 62) : ∀ b a, some pb = some b → w.heap[b]? ≠ some (.cells a E (0, 0)) := by
  intro b a e h
  cases e
  rw [hpb] at h
  simp at h
  exact hE h.2.symm

theorem own_not {w : World} {B e m n : Nat} {v : Value} {xs : List Value} (h : w.ownsRow B e m v n xs) {E : Nat} (hE : e ≠ E) : ∀ b a, v.ownBlock = some b → w.heap[b]? ≠ some (.cells a E (0, 0)) := by
  intro b a hb hc
  exact own_ne_block h hc hE hb

theorem lies_took {E sz : Nat} {z : Array Value} {pb k : Nat} {arr : Array Value} {s : Value} {w w' : World} {g n cap : Nat} {cur : Array Value} {ps : List (Nat × Nat)} (hL : Lies E w ps) (h : Took E sz z pb k arr s w w' g n cap cur) (hpb : w.heap[pb]? = some (.cells arr 62 (0, 0))) (hE : E ≠ 62) (o : Nat) :
    Lies E w' (ps ++ [(g, o)]) := by
  intro p hp
  rcases List.mem_append.1 hp with hp | hp
  · exact lies_kept hL h.grown (par_not hpb hE) p hp
  · simp at hp
    subst hp
    exact ⟨cur, h.blk⟩
end Go.Proofs.Qxb6609531a.kept
