import Derived.Test.Qxb6609531aPlaceLaw
import Derived.Test.Qxb6609531aItemsLaw
namespace Go.Proofs.Qxb6609531a.all
open Go.RowKit take items kept values placed

def num (n : Nat) : Value := .int .i64 n

/-- The whole state of a script. B: the parser's block; all that the call owns lies from it on. ps, qs: the values and items in the two lists; pl, ql: those given out; fr: the steps' numbers. -/
structure All (B : Nat) (w0 : World) (first : Int) (vs is vv fv iv : Value) (ps pl qs ql : List (Nat × Nat)) (fr : List Nat) (gs : List Rec) (w : World) : Prop where
  own28 : w.ownsRow B 28 1 vv ps.length (ps.map ptr)
  own3 : w.ownsRow B 3 1 fv fr.length (fr.map num)
  own38 : w.ownsRow B 38 1 iv qs.length (qs.map ptr)
  par : w.heap[B]? = some (.cells (parr pl.length first vs is) 62 (0, 0))
  slabV : Slab 68 9 zV w vs
  slabI : Slab 79 3 zI w is
  lo : Lo B vs
  aheadV : Ahead 9 vs pl
  aheadI : Ahead 3 is ql
  liesV : Lies 68 w pl
  liesI : Lies 79 w ql
  placed : Placed w pl gs
  glen : gs.length = pl.length
  below : Below B w0 w
  ge : B ≤ w0.heap.size

section
variable {B : Nat} {w0 w : World} {first : Int} {vs is vv fv iv : Value} {ps pl qs ql : List (Nat × Nat)} {fr : List Nat} {gs : List Rec}

theorem All.size (h : All B w0 first vs is vv fv iv ps pl qs ql fr gs w) : B ≤ w.heap.size := Nat.le_trans h.ge h.below.size

theorem All.drewN (h : All B w0 first vs is vv fv iv ps pl qs ql fr gs w) (d : Nat) : All B w0 first vs is vv fv iv ps pl qs ql fr gs (w.drewN d) :=
  ⟨h.own28, h.own3, h.own38, h.par, h.slabV, h.slabI, h.lo, h.aheadV, h.aheadI, h.liesV, h.liesI, h.placed, h.glen, ⟨h.below.os, h.below.tape, h.below.output, h.below.size, h.below.block⟩, h.ge⟩

theorem All.alloc (h : All B w0 first vs is vv fv iv ps pl qs ql fr gs w) (o : Obj) : All B w0 first vs is vv fv iv ps pl qs ql fr gs (w.alloc o) :=
  ⟨h.own28.alloc o, h.own3.alloc o, h.own38.alloc o, block_alloc h.par o, slab_alloc h.slabV o, slab_alloc h.slabI o, h.lo, h.aheadV, h.aheadI,
    lies_kept h.liesV (World.grownBy_alloc _ _ none) (fun _ _ e => by cases e), lies_kept h.liesI (World.grownBy_alloc _ _ none) (fun _ _ e => by cases e), placed_kept h.placed h.liesV (World.grownBy_alloc _ _ none) (fun _ _ e => by cases e), h.glen, h.below.alloc h.size o, h.ge⟩

/-- newItems -/
theorem All.took {w' : World} {g n cap : Nat} {cur : Array Value} (h : All B w0 first vs is vv fv iv ps pl qs ql fr gs w) (hT : Took 79 3 zI B 8 (parr pl.length first vs is) is w w' g n cap cur) :
    All B w0 first vs (.slice (some ⟨g, 0, none⟩) (n + 1) cap) vv fv iv ps pl qs (ql ++ [(g, n * 3)]) fr gs w' :=
  ⟨own_par h.own28 hT.grown h.par (by decide), own_par h.own3 hT.grown h.par (by decide), own_par h.own38 hT.grown h.par (by decide), hT.par, slab_kept h.slabV hT.grown (par_not h.par (by decide)), took_slab hT, h.lo, h.aheadV, (ahead_took h.aheadI h.slabI hT).2,
    lies_kept h.liesV hT.grown (par_not h.par (by decide)), lies_took h.liesI hT h.par (by decide) _, placed_kept h.placed h.liesV hT.grown (par_not h.par (by decide)), h.glen, h.below.grown hT.grown h.size (fun k e => by cases e; exact Nat.le_refl _), h.ge⟩

/-- newValue -/
theorem All.newV {w' : World} {g n cap : Nat} {hh idx : Int} {key : ByteArray} (h : All B w0 first vs is vv fv iv ps pl qs ql fr gs w) (hN : NewV B pl.length first vs is (hold pl hh) key idx w w' g n cap) :
    All B w0 first (.slice (some ⟨g, 0, none⟩) (n + 1) cap) is vv fv iv ps (pl ++ [(g, n * 9)]) qs ql fr (gs ++ [(hh, key, idx)]) w' :=
  ⟨newV_own hN h.par h.slabV h.own28 (by decide) (by decide), newV_own hN h.par h.slabV h.own3 (by decide) (by decide), newV_own hN h.par h.slabV h.own38 (by decide) (by decide), by have := hN.par; simpa using this, hN.slab, newV_slab hN h.par h.slabV h.slabI (by decide) (by decide), newV_lo hN h.size h.lo, (newV_ahead hN h.aheadV h.liesV).2, h.aheadI,
    newV_lies68 hN h.par h.liesV, newV_lies hN h.par h.slabV h.liesI (by decide) (by decide), newV_placed hN h.par h.aheadV h.liesV h.placed h.glen rfl, by simp [h.glen], newV_below hN h.below h.size (Nat.le_refl _) h.lo, h.ge⟩

theorem own_own {w' : World} {e e' n n' : Nat} {v v' : Value} {xs xs' : List Value} (h : w.ownsRow B e 1 v n xs) (h' : w.ownsRow B e' 1 v' n' xs') (hne : e ≠ e') (hg : w.grownBy w' v.ownBlock) : w'.ownsRow B e' 1 v' n' xs' := by
  refine h'.kept hg ?_
  rcases h'.2 with ⟨rfl, _⟩ | ⟨g, cap, cur, rfl, _, hb, _⟩
  · exact .inl rfl
  · right
    intro heq
    exact own_ne_block h hb hne (by rw [← heq]; rfl)

/-- an append onto a row of the call's own, of elements e -/
theorem All.grown {w' : World} {e n : Nat} {v : Value} {xs : List Value} (h : All B w0 first vs is vv fv iv ps pl qs ql fr gs w) (hown : w.ownsRow B e 1 v n xs) (hg : w.grownBy w' v.ownBlock) (h62 : e ≠ 62) (h68 : e ≠ 68) (h79 : e ≠ 79) {vv' fv' iv' : Value} {ps' qs' : List (Nat × Nat)} {fr' : List Nat}
    (h28 : w'.ownsRow B 28 1 vv' ps'.length (ps'.map ptr)) (h3 : w'.ownsRow B 3 1 fv' fr'.length (fr'.map num)) (h38 : w'.ownsRow B 38 1 iv' qs'.length (qs'.map ptr)) :
    All B w0 first vs is vv' fv' iv' ps' pl qs' ql fr' gs w' :=
  ⟨h28, h3, h38, block_own hg hown h.par h62, slab_own h.slabV hg hown h68, slab_own h.slabI hg hown h79, h.lo, h.aheadV, h.aheadI,
    lies_kept h.liesV hg (own_not hown h68), lies_kept h.liesI hg (own_not hown h79), placed_kept h.placed h.liesV hg (own_not hown h68), h.glen, h.below.grown hg h.size (fun k e => (hown.lt k e).1), h.ge⟩

theorem All.app28 {w' : World} {vv' : Value} {p : Nat × Nat} {o : Obj} (h : All B w0 first vs is vv fv iv ps pl qs ql fr gs w) (hg : (w.alloc o).grownBy w' vv.ownBlock) (hn : w'.ownsRow B 28 1 vv' (ps.length + 1) (ps.map ptr ++ [ptr p])) :
    All B w0 first vs is vv' fv iv (ps ++ [p]) pl qs ql fr gs w' :=
  (h.alloc o).grown (h.own28.alloc o) hg (by decide) (by decide) (by decide) (by simpa using hn) (own_own (h.own28.alloc o) (h.own3.alloc o) (by decide) hg) (own_own (h.own28.alloc o) (h.own38.alloc o) (by decide) hg)

theorem All.app38 {w' : World} {iv' : Value} {p : Nat × Nat} {o : Obj} (h : All B w0 first vs is vv fv iv ps pl qs ql fr gs w) (hg : (w.alloc o).grownBy w' iv.ownBlock) (hn : w'.ownsRow B 38 1 iv' (qs.length + 1) (qs.map ptr ++ [ptr p])) :
    All B w0 first vs is vv fv iv' ps pl (qs ++ [p]) ql fr gs w' :=
  (h.alloc o).grown (h.own38.alloc o) hg (by decide) (by decide) (by decide) (own_own (h.own38.alloc o) (h.own28.alloc o) (by decide) hg) (own_own (h.own38.alloc o) (h.own3.alloc o) (by decide) hg) (by simpa using hn)

theorem All.app3 {w' : World} {fv' : Value} {k : Nat} {o : Obj} (h : All B w0 first vs is vv fv iv ps pl qs ql fr gs w) (hg : (w.alloc o).grownBy w' fv.ownBlock) (hn : w'.ownsRow B 3 1 fv' (fr.length + 1) (fr.map num ++ [num k])) :
    All B w0 first vs is vv fv' iv ps pl qs ql (fr ++ [k]) gs w' :=
  (h.alloc o).grown (h.own3.alloc o) hg (by decide) (by decide) (by decide) (own_own (h.own3.alloc o) (h.own28.alloc o) (by decide) hg) (by simpa using hn) (own_own (h.own3.alloc o) (h.own38.alloc o) (by decide) hg)
end
end Go.Proofs.Qxb6609531a.all
