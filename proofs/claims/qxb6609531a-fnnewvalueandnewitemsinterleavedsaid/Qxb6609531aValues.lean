import Derived.Test.Qxb6609531aKept
namespace Go.Proofs.Qxb6609531a.values
open Go.RowKit take items kept

set_option maxHeartbeats 1000000 in
theorem takeValue (pb : Nat) (values first : Int) (vs is : Value) (h0 : 0 ≤ first) (h1 : first ≤ 512) (w : World) (hpb : w.heap[pb]? = some (.cells (parr values first vs is) 62 (0, 0))) (hS : Slab 68 9 zV w vs) :
    Calls Try.prog 21 #[.pointer (some ⟨pb, 0, none⟩)] w fun e w' => ∃ g n cap cur, e = .returned (.pointer (some ⟨g, n * 9, none⟩)) ∧ Took 68 9 zV pb 7 (parr values first vs is) vs w w' g n cap cur := by
  have hc := cell_at hpb (o := 6) (v := .int .i64 first) rfl
  go_enter Try.func21, Try.ntmps21
  go_wp2
  go_region_with (go_at_call 23; refine (takeV pb 7 (parr values first vs is) vs first h0 h1 _ ?_ rfl ?_).mono ?_; exact hpb; exact hS; rintro e w1 ⟨g, n, cap, cur, rfl, hT⟩)
  all_goals
    go_wp2
    go_ret
    exact ⟨g, n, cap, cur, rfl, took_undrew hT⟩

set_option maxHeartbeats 400000 in
theorem valueItems (g o : Nat) (w : World) (h4 : w.cell? ⟨g, o + 4, none⟩ = some (.pointer none)) :
    Calls Try.prog 19 #[.pointer (some ⟨g, o, none⟩)] w fun e w' => e = .returned (.pointer none) ∧ w' = w := by
  go_enter Try.func19, Try.ntmps19
  go_wp2
  go_ret
  exact ⟨rfl, rfl⟩

set_option maxHeartbeats 1000000 in
theorem fresh (g o : Nat) (w : World) (h0 : w.cell? ⟨g, o, none⟩ = some (.int .i64 0)) (h1 : w.cell? ⟨g, o + 1, none⟩ = some (.bool false)) (h2 : w.cell? ⟨g, o + 2, none⟩ = some (.string ⟨#[]⟩)) (h3 : w.cell? ⟨g, o + 3, none⟩ = some (.slice none 0 0)) (h4 : w.cell? ⟨g, o + 4, none⟩ = some (.pointer none)) :
    Calls Try.prog 11 #[.pointer (some ⟨g, o, none⟩)] w fun e w' => e = .returned (.bool true) ∧ w' = w := by
  have hq58 : ∀ w, (binOp .eql 58 (.slice none 0 0) (.slice none 0 0)).run Try.prog w = .ok (.bool true) w := fun w => by kernel_rfl
  go_enter Try.func11, Try.ntmps11
  go_wp2_with (go_at_call 19; refine (valueItems g o _ h4).mono ?_; rintro e w' ⟨rfl, rfl⟩)
  go_ret
  exact ⟨rfl, rfl⟩

set_option maxHeartbeats 1000000 in
theorem place (g o : Nat) (po : Option Addr) (key : ByteArray) (idx at_ : Int) (w : World) (h5 : w.cell? ⟨g, o + 5, none⟩ = some (.pointer po)) (h6 : w.cell? ⟨g, o + 6, none⟩ = some (.string key)) (h7 : w.cell? ⟨g, o + 7, none⟩ = some (.int .i64 idx)) (h8 : w.cell? ⟨g, o + 8, none⟩ = some (.int .i64 at_)) :
    Calls Try.prog 13 #[.pointer (some ⟨g, o, none⟩)] w fun e w' => e = .returned (.tuple #[.pointer po, .string key, .int .i64 idx, .int .i64 at_]) ∧ ∃ d, w' = w.drewN d := by
  go_enter Try.func13, Try.ntmps13
  go_wp2
  go_quiet (fail)
  go_wp2
  exact bodyPost_ret (v := .tuple #[.pointer po, .string key, .int .i64 idx, .int .i64 at_]) (by simp [results, Try.results13, go_sem]) rfl ⟨rfl, _, rfl⟩

/-- the holder that zzHolder gives -/
def hold (ps : List (Nat × Nat)) (h : Int) : Option Addr := if 0 ≤ h ∧ h < ps.length then (ps[h.toNat]?).map fun p => ⟨p.1, p.2, none⟩ else none

set_option maxHeartbeats 1000000 in
theorem holder (ps : List (Nat × Nat)) (gb k cv : Nat) (h : Int) (w : World) (hk : ps.length = k) (hc : ∀ j p, ps[j]? = some p → w.cell? ⟨gb, j, none⟩ = some (ptr p)) :
    Calls Try.prog 10 #[.slice (some ⟨gb, 0, none⟩) k cv, .int .i64 h] w fun e w' => e = .returned (.pointer (hold ps h)) ∧ w' = w := by
  by_cases h0 : 0 ≤ h
  · by_cases h1 : h < k
    · obtain ⟨j, rfl⟩ := Int.eq_ofNat_of_zero_le h0
      have hj : j < ps.length := by omega
      obtain ⟨b, o, hbo⟩ : ∃ b o, ps[j]? = some (b, o) := ⟨ps[j].1, ps[j].2, by simp [List.getElem?_eq_getElem hj]⟩
      have hcj : w.cell? ⟨gb, j, none⟩ = some (.pointer (some ⟨b, o, none⟩)) := hc j _ hbo
      have hh : hold ps (j : Int) = some ⟨b, o, none⟩ := by unfold hold; rw [if_pos ⟨h0, by omega⟩, Int.toNat_natCast, hbo]; rfl
      rw [hh]
      clear hbo hh hc
      go_enter Try.func10, Try.ntmps10
      go_wp2
      go_ret
      exact ⟨rfl, rfl⟩
    · have hh : hold ps h = none := by simp [hold]; omega
      rw [hh]
      clear hh hc
      go_enter Try.func10, Try.ntmps10
      go_wp2
      go_ret
      exact ⟨rfl, rfl⟩
  · have hh : hold ps h = none := by simp [hold]; omega
    rw [hh]
    clear hh hc
    go_enter Try.func10, Try.ntmps10
    go_wp2
    go_ret
    exact ⟨rfl, rfl⟩

/-- what newValue leaves -/
structure NewV (pb : Nat) (values first : Int) (vs is : Value) (po : Option Addr) (key : ByteArray) (idx : Int) (w w' : World) (g n cap : Nat) : Prop where
  par : w'.heap[pb]? = some (.cells (parr (values + 1) first (.slice (some ⟨g, 0, none⟩) (n + 1) cap) is) 62 (0, 0))
  slab : Slab 68 9 zV w' (.slice (some ⟨g, 0, none⟩) (n + 1) cap)
  os : w'.os = w.os
  tape : w'.tape = w.tape
  output : w'.output = w.output
  size : w.heap.size ≤ w'.heap.size
  block : ∀ b, b < w.heap.size → b ≠ pb → b ≠ g → w'.heap[b]? = w.heap[b]?
  old : ∀ o, g < w.heap.size → o < n * 9 → w'.cell? ⟨g, o, none⟩ = w.cell? ⟨g, o, none⟩
  blk : ∃ c, w'.heap[g]? = some (.cells c 68 (0, 0))
  c0 : w'.cell? ⟨g, n * 9, none⟩ = some (.int .i64 0)
  c1 : w'.cell? ⟨g, n * 9 + 1, none⟩ = some (.bool false)
  c2 : w'.cell? ⟨g, n * 9 + 2, none⟩ = some (.string ⟨#[]⟩)
  c3 : w'.cell? ⟨g, n * 9 + 3, none⟩ = some (.slice none 0 0)
  c4 : w'.cell? ⟨g, n * 9 + 4, none⟩ = some (.pointer none)
  c5 : w'.cell? ⟨g, n * 9 + 5, none⟩ = some (.pointer po)
  c6 : w'.cell? ⟨g, n * 9 + 6, none⟩ = some (.string key)
  c7 : w'.cell? ⟨g, n * 9 + 7, none⟩ = some (.int .i64 idx)
  c8 : w'.cell? ⟨g, n * 9 + 8, none⟩ = some (.int .i64 values)
  from_ : (vs = .slice (some ⟨g, 0, none⟩) n cap ∧ g < w.heap.size) ∨ (w.heap.size ≤ g ∧ n = 0)

def nvWorld (w1 : World) (g o pb : Nat) (po : Option Addr) (key : ByteArray) (idx at_ values : Int) : World :=
  (((((w1.setCell ⟨g, o + 5, none⟩ (.pointer po)).setCell ⟨g, o + 5 + 1, none⟩ (.string key)).setCell ⟨g, o + 5 + 2, none⟩ (.int .i64 idx)).setCell ⟨g, o + 5 + 3, none⟩ (.int .i64 at_)).setCell ⟨g, o + 5 + 3, none⟩ (.int .i64 values)).setCell ⟨pb, 5, none⟩ (.int .i64 (values + 1))

def nvCur (cur : Array Value) (o : Nat) (po : Option Addr) (key : ByteArray) (idx at_ values : Int) : Array Value :=
  ((((cur.setIfInBounds (o + 5) (.pointer po)).setIfInBounds (o + 5 + 1) (.string key)).setIfInBounds (o + 5 + 2) (.int .i64 idx)).setIfInBounds (o + 5 + 3) (.int .i64 at_)).setIfInBounds (o + 5 + 3) (.int .i64 values)

theorem nvCur_other (cur : Array Value) (o : Nat) (po : Option Addr) (key : ByteArray) (idx at_ values : Int) (j : Nat) (hj : j < o + 5 ∨ o + 9 ≤ j) : (nvCur cur o po key idx at_ values)[j]? = cur[j]? := by
  unfold nvCur
  rw [Array.getElem?_setIfInBounds_ne (by omega), Array.getElem?_setIfInBounds_ne (by omega), Array.getElem?_setIfInBounds_ne (by omega), Array.getElem?_setIfInBounds_ne (by omega), Array.getElem?_setIfInBounds_ne (by omega)]

section
variable (w1 : World) (g o pb : Nat) (po : Option Addr) (key : ByteArray) (idx at_ values : Int)

theorem nv_blk {cur : Array Value} (hne : g ≠ pb) (hb : w1.heap[g]? = some (.cells cur 68 (0, 0))) : (nvWorld w1 g o pb po key idx at_ values).heap[g]? = some (.cells (nvCur cur o po key idx at_ values) 68 (0, 0)) := by
  unfold nvWorld nvCur
  rw [Below.heap_setCell _ _ _ _ hne]
  exact heap_setCell_at _ (heap_setCell_at _ (heap_setCell_at _ (heap_setCell_at _ (heap_setCell_at _ hb))))

theorem nv_other (b : Nat) (h1 : b ≠ g) (h2 : b ≠ pb) : (nvWorld w1 g o pb po key idx at_ values).heap[b]? = w1.heap[b]? := by
  unfold nvWorld
  rw [Below.heap_setCell _ _ _ _ h2, Below.heap_setCell _ _ _ _ h1, Below.heap_setCell _ _ _ _ h1, Below.heap_setCell _ _ _ _ h1, Below.heap_setCell _ _ _ _ h1, Below.heap_setCell _ _ _ _ h1]

theorem nv_par {arr : Array Value} (hne : pb ≠ g) (hb : w1.heap[pb]? = some (.cells arr 62 (0, 0))) : (nvWorld w1 g o pb po key idx at_ values).heap[pb]? = some (.cells (arr.setIfInBounds 5 (.int .i64 (values + 1))) 62 (0, 0)) := by
  unfold nvWorld
  refine heap_setCell_at _ ?_
  rw [Below.heap_setCell _ _ _ _ hne, Below.heap_setCell _ _ _ _ hne, Below.heap_setCell _ _ _ _ hne, Below.heap_setCell _ _ _ _ hne, Below.heap_setCell _ _ _ _ hne]
  exact hb

theorem nv_size : (nvWorld w1 g o pb po key idx at_ values).heap.size = w1.heap.size := by simp [nvWorld, World.setCell]

theorem nv_os : (nvWorld w1 g o pb po key idx at_ values).os = w1.os := by
  unfold nvWorld
  rw [(grownBy_setCell _ _ _ _).os, (grownBy_setCell _ _ _ _).os, (grownBy_setCell _ _ _ _).os, (grownBy_setCell _ _ _ _).os, (grownBy_setCell _ _ _ _).os, (grownBy_setCell _ _ _ _).os]
theorem nv_tape : (nvWorld w1 g o pb po key idx at_ values).tape = w1.tape := by
  unfold nvWorld
  rw [(grownBy_setCell _ _ _ _).tape, (grownBy_setCell _ _ _ _).tape, (grownBy_setCell _ _ _ _).tape, (grownBy_setCell _ _ _ _).tape, (grownBy_setCell _ _ _ _).tape, (grownBy_setCell _ _ _ _).tape]
theorem nv_output : (nvWorld w1 g o pb po key idx at_ values).output = w1.output := by
  unfold nvWorld
  rw [(grownBy_setCell _ _ _ _).output, (grownBy_setCell _ _ _ _).output, (grownBy_setCell _ _ _ _).output, (grownBy_setCell _ _ _ _).output, (grownBy_setCell _ _ _ _).output, (grownBy_setCell _ _ _ _).output]

variable (cur : Array Value)
theorem nvCur_size : (nvCur cur o po key idx at_ values).size = cur.size := by simp [nvCur]

theorem nvCur_5 (h : o + 9 ≤ cur.size) : (nvCur cur o po key idx at_ values)[o + 5]? = some (.pointer po) := by
  unfold nvCur
  rw [Array.getElem?_setIfInBounds_ne (by omega), Array.getElem?_setIfInBounds_ne (by omega), Array.getElem?_setIfInBounds_ne (by omega), Array.getElem?_setIfInBounds_ne (by omega)]
  exact Array.getElem?_setIfInBounds_self_of_lt (by omega)
theorem nvCur_6 (h : o + 9 ≤ cur.size) : (nvCur cur o po key idx at_ values)[o + 6]? = some (.string key) := by
  unfold nvCur
  rw [Array.getElem?_setIfInBounds_ne (by omega), Array.getElem?_setIfInBounds_ne (by omega), Array.getElem?_setIfInBounds_ne (by omega)]
  exact Array.getElem?_setIfInBounds_self_of_lt (by simp; omega)
theorem nvCur_7 (h : o + 9 ≤ cur.size) : (nvCur cur o po key idx at_ values)[o + 7]? = some (.int .i64 idx) := by
  unfold nvCur
  rw [Array.getElem?_setIfInBounds_ne (by omega), Array.getElem?_setIfInBounds_ne (by omega)]
  exact Array.getElem?_setIfInBounds_self_of_lt (by simp; omega)
theorem nvCur_8 (h : o + 9 ≤ cur.size) : (nvCur cur o po key idx at_ values)[o + 8]? = some (.int .i64 values) := by
  unfold nvCur
  exact Array.getElem?_setIfInBounds_self_of_lt (by simp; omega)
end

theorem zV0 : zV[0]! = .int .i64 0 := rfl
theorem zV1 : zV[1]! = .bool false := rfl
theorem zV2 : zV[2]! = .string ⟨#[]⟩ := rfl
theorem zV3 : zV[3]! = .slice none 0 0 := rfl
theorem zV4 : zV[4]! = .pointer none := rfl

theorem nv_zero {E pb k : Nat} {arr : Array Value} {vs : Value} {w0 w1 : World} {g n cap : Nat} {cur : Array Value} (hT : Took E 9 zV pb k arr vs w0 w1 g n cap cur) (po : Option Addr) (key : ByteArray) (idx at_ values : Int) (j : Nat) (hj : j < 5) :
    (nvCur cur (n * 9) po key idx at_ values)[n * 9 + j]? = some (zV[j]!) := by
  have hfit : n * 9 + 9 ≤ cap * 9 := by have := Nat.mul_le_mul_right 9 hT.lt; omega
  rw [nvCur_other _ _ _ _ _ _ _ _ (.inl (by omega)), hT.zero (n * 9 + j) (by omega) (by omega), show zV.size = 9 from rfl, show (n * 9 + j) % 9 = j from by omega]

theorem parr_set (values first v' : Int) (vs is s : Value) : ((parr values first vs is).setIfInBounds 7 s).setIfInBounds 5 (.int .i64 v') = parr v' first s is := rfl

theorem newV_of {pb : Nat} {values first : Int} {vs is : Value} {po : Option Addr} {key : ByteArray} {idx at_ : Int} {w w1 : World} {g n cap : Nat} {cur : Array Value} {o : Obj} (hpb : w.heap[pb]? = some (.cells (parr values first vs is) 62 (0, 0))) (hS : Slab 68 9 zV w vs)
    (hT : Took 68 9 zV pb 7 (parr values first vs is) vs (w.alloc o) w1 g n cap cur) (w' : World) (hw' : nvWorld w1 g (n * 9) pb po key idx at_ values = w') : NewV pb values first vs is po key idx w w' g n cap := by
  have hlt : pb < w.heap.size := (Array.getElem?_eq_some_iff.1 hpb).1
  have hne : g ≠ pb := by rintro rfl; have := hT.blk; rw [hT.par] at this; simp at this
  have hfit : n * 9 + 9 ≤ cap * 9 := by have := Nat.mul_le_mul_right 9 hT.lt; omega
  have hsz1 : w.heap.size + 1 ≤ w1.heap.size := by have := hT.grown.size; simpa using this
  have hblk := nv_blk w1 g (n * 9) pb po key idx at_ values hne hT.blk
  have hother := nv_other w1 g (n * 9) pb po key idx at_ values
  have hpar := nv_par w1 g (n * 9) pb po key idx at_ values hne.symm hT.par
  rw [parr_set] at hpar
  have hsize := nv_size w1 g (n * 9) pb po key idx at_ values
  have hos := nv_os w1 g (n * 9) pb po key idx at_ values
  have htape := nv_tape w1 g (n * 9) pb po key idx at_ values
  have hout := nv_output w1 g (n * 9) pb po key idx at_ values
  rw [hw'] at hblk hother hpar hsize hos htape hout
  clear hw'
  have hcs := nvCur_size (n * 9) po key idx at_ values cur
  rw [hT.size] at hcs
  have hc : n * 9 + 9 ≤ cur.size := by rw [hT.size]; exact hfit
  have k5 := nvCur_5 (n * 9) po key idx at_ values cur hc
  have k6 := nvCur_6 (n * 9) po key idx at_ values cur hc
  have k7 := nvCur_7 (n * 9) po key idx at_ values cur hc
  have k8 := nvCur_8 (n * 9) po key idx at_ values cur hc
  have z0 := nv_zero hT po key idx at_ values 0 (by omega)
  have z1 := nv_zero hT po key idx at_ values 1 (by omega)
  have z2 := nv_zero hT po key idx at_ values 2 (by omega)
  have z3 := nv_zero hT po key idx at_ values 3 (by omega)
  have z4 := nv_zero hT po key idx at_ values 4 (by omega)
  rw [zV0] at z0; rw [zV1] at z1; rw [zV2] at z2; rw [zV3] at z3; rw [zV4] at z4
  have hoth : ∀ j, j < n * 9 + 5 ∨ n * 9 + 9 ≤ j → (nvCur cur (n * 9) po key idx at_ values)[j]? = cur[j]? := fun j hj => nvCur_other cur (n * 9) po key idx at_ values j hj
  generalize nvCur cur (n * 9) po key idx at_ values = cur' at *
  have hslab : Slab 68 9 zV w' (.slice (some ⟨g, 0, none⟩) (n + 1) cap) := by
    refine .inr ⟨g, n + 1, cap, cur', rfl, hT.lt, Nat.lt_of_le_of_lt (Nat.zero_le _) hT.lt, hT.le, hblk, hcs, fun j h1 h2 => ?_⟩
    rw [hoth j (.inr (by omega))]
    exact hT.zero j (by omega) h2
  have hfrom : (vs = .slice (some ⟨g, 0, none⟩) n cap ∧ g < w.heap.size) ∨ (w.heap.size ≤ g ∧ n = 0) := by
    rcases hT.from_ with ⟨hs, _, hg⟩ | ⟨hg, hn⟩
    · refine .inl ⟨hs, ?_⟩
      rcases hS with h | ⟨g1, n1, cap1, cur1, h, _, _, _, hb, _⟩
      · rw [h] at hs; simp at hs
      · rw [h] at hs; simp at hs; obtain ⟨rfl, _, _⟩ := hs; exact (Array.getElem?_eq_some_iff.1 hb).1
    · exact .inr ⟨by rw [hg]; simp, hn⟩
  have hold : ∀ o, g < w.heap.size → o < n * 9 → w'.cell? ⟨g, o, none⟩ = w.cell? ⟨g, o, none⟩ := by
    intro o' h1 h2
    rcases hT.from_ with ⟨_, _, hg⟩ | ⟨hg, hn⟩
    · have hg' : w.heap[g]? = some (.cells cur 68 (0, 0)) := (Below.heap_alloc _ _ _ h1).symm.trans hg
      have e := hoth o' (.inl (by omega))
      simp [World.cell?, hblk, hg', e]
    · subst hn; omega
  have hblock : ∀ b, b < w.heap.size → b ≠ pb → b ≠ g → w'.heap[b]? = w.heap[b]? := by
    intro b h1 h2 h3
    rw [hother b h3 h2, hT.grown.block b (by simp; omega) (by simp; omega)]
    exact Below.heap_alloc _ _ _ h1
  have hos' : w'.os = w.os := hos.trans hT.grown.os
  have htape' : w'.tape = w.tape := htape.trans hT.grown.tape
  have hout' : w'.output = w.output := hout.trans hT.grown.output
  exact { par := hpar, slab := hslab, os := hos', tape := htape', output := hout', size := (by rw [hsize]; omega), block := hblock, old := hold, blk := ⟨_, hblk⟩, c0 := cell_at hblk z0, c1 := cell_at hblk z1, c2 := cell_at hblk z2, c3 := cell_at hblk z3, c4 := cell_at hblk z4, c5 := cell_at hblk k5, c6 := cell_at hblk k6, c7 := cell_at hblk k7, c8 := cell_at hblk k8, from_ := hfrom }

set_option maxHeartbeats 1000000 in
theorem newValue0 (pb : Nat) (values first : Int) (vs is : Value) (po : Option Addr) (key : ByteArray) (idx at_ : Int) (h0 : 0 ≤ first) (h1 : first ≤ 512) (hv0 : 0 ≤ values) (hv1 : values ≤ 1000000) (w : World) (hpb : w.heap[pb]? = some (.cells (parr values first vs is) 62 (0, 0))) (hS : Slab 68 9 zV w vs) :
    Calls Try.prog 18 #[.pointer (some ⟨pb, 0, none⟩), .agg #[.pointer po, .string key, .int .i64 idx, .int .i64 at_]] w fun e w' => ∃ g n cap, e = .returned (.pointer (some ⟨g, n * 9, none⟩)) ∧ NewV pb values first vs is po key idx w w' g n cap := by
  have hpb' := block_alloc hpb (.cells #[.pointer po, .string key, .int .i64 idx, .int .i64 at_] 65)
  have hS' := slab_alloc hS (.cells #[.pointer po, .string key, .int .i64 idx, .int .i64 at_] 65)
  have hlt : pb < w.heap.size := (Array.getElem?_eq_some_iff.1 hpb).1
  go_enter Try.func18, Try.ntmps18
  go_wp2_with fail
  refine (takeValue pb values first vs is h0 h1 _ hpb' hS').mono ?_
  rintro e w1 ⟨g, n, cap, cur, rfl, hT⟩
  have hbox : w1.heap[w.heap.size]? = some (.cells #[.pointer po, .string key, .int .i64 idx, .int .i64 at_] 65 (0, 0)) := block_kept hT.grown (heap_alloc_new w _) (by simp; omega)
  have b0 := cell_at hbox (o := 0) rfl
  have b1 := cell_at hbox (o := 1) rfl
  have b2 := cell_at hbox (o := 2) rfl
  have b3 := cell_at hbox (o := 3) rfl
  have c5 := took_cell hT rfl 5 (by decide)
  have c6 := took_cell hT rfl 6 (by decide)
  have c7 := took_cell hT rfl 7 (by decide)
  have c8 := took_cell hT rfl 8 (by decide)
  have f5 := frozen_at hT.blk (n * 9 + 5)
  have f6 := frozen_at hT.blk (n * 9 + 6)
  have f7 := frozen_at hT.blk (n * 9 + 7)
  have f8 := frozen_at hT.blk (n * 9 + 8)
  have p5 : w1.cell? ⟨pb, 5, none⟩ = some (.int .i64 values) := cell_at hT.par rfl
  have fp := frozen_at hT.par 5
  have hne : g ≠ pb := by rintro rfl; have := hT.blk; rw [hT.par] at this; simp at this
  have HN : Hid (∀ w', nvWorld w1 g (n * 9) pb po key idx at_ values = w' → NewV pb values first vs is po key idx w w' g n cap) := fun w' hw' => newV_of hpb hS hT w' hw'
  clear hT hbox hpb hS hpb' hS'
  go_wp2
  go_ret
  exact ⟨g, n, cap, rfl, HN.out _ rfl⟩

set_option maxHeartbeats 400000 in
theorem newValue (pb : Nat) (values first : Int) (vs is : Value) (po : Option Addr) (key : ByteArray) (idx at_ : Int) (h0 : 0 ≤ first) (h1 : first ≤ 512) (hv0 : 0 ≤ values) (hv1 : values ≤ 1000000) (w : World) (hpb : w.heap[pb]? = some (.cells (parr values first vs is) 62 (0, 0))) (hS : Slab 68 9 zV w vs) :
    Calls Try.prog 9 #[.pointer (some ⟨pb, 0, none⟩), .pointer po, .string key, .int .i64 idx, .int .i64 at_] w fun e w' => ∃ g n cap, e = .returned (.pointer (some ⟨g, n * 9, none⟩)) ∧ NewV pb values first vs is po key idx w w' g n cap := by
  go_enter Try.func9, Try.ntmps9
  go_wp2_with fail
  refine (newValue0 pb values first vs is po key idx at_ h0 h1 hv0 hv1 w hpb hS).mono ?_
  rintro e w' ⟨g, n, cap, rfl, hN⟩
  go_wp2
  go_ret
  exact ⟨g, n, cap, rfl, hN⟩
end Go.Proofs.Qxb6609531a.values
