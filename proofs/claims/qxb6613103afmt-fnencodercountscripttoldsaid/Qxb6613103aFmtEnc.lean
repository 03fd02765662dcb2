import Derived.Test.Qxb6613103aFmtFacts
import Derived.Deep.RegionWith
import Derived.Deep.DrawnRows
import Derived.Deep.QuietTactic
import Derived.BigQuiet
namespace Go.Proofs.Qxb6613103aFmt.enc
open Go.Extern.Stop Go.Stop Go.Extern Go.RowKit

/-- the four bytes of a word, greatest first -/
def be4 (v : Int) : List Value := [.int .u8 (v / 16777216), .int .u8 (v / 65536 % 256), .int .u8 (v / 256 % 256), .int .u8 (v % 256)]

theorem heap_size_alloc (w : World) (o : Obj) : (w.alloc o).heap.size = w.heap.size + 1 := by simp

theorem i5 : (Tryf.prog.info? 5).map (fun i => (i.zero, i.size, i.bytes)) = some (some (Value.int IntKind.u8 0), 1, 1) := by kernel_rfl

set_option maxHeartbeats 1000000 in
theorem append32 (B n : Nat) (v : Int) (hv0 : 0 ≤ v) (hv : v < 4294967296) (sv : Value) (xs : List Value) (w : World) (hown : w.ownsRow B 5 1 sv n xs) (hBw : B ≤ w.heap.size) (hlim : n + 4 ≤ 140737488355328) :
    Calls Tryf.prog 17 #[.agg #[], sv, .int .u32 v] w fun e w' => ∃ g cap, e = .returned (.slice (some ⟨g, 0, none⟩) (n + 4) cap) ∧ w'.ownsRow B 5 1 (.slice (some ⟨g, 0, none⟩) (n + 4) cap) (n + 4) (xs ++ be4 v) ∧ w.grownBy w' sv.ownBlock ∧ (some g = sv.ownBlock ∨ w.heap.size ≤ g) := by
  obtain ⟨i0, hi, hz0, hz1, hz2⟩ := info_parts i5
  go_enter Tryf.func17, Tryf.ntmps17
  go_wp2_with (at_builtin; refine wpList_append_own_at _ rfl _ _ 22 rfl B 5 i0 (.int .u8 0) 1 1 Tryf.underlying22 hi hz0 hz1 hz2 rfl (by decide) _ _ _ rfl ((hown.alloc _).alloc _) _ 4 4 (be4 v) rfl rfl ?c1 ?c2 ?c3 ?c4 ?c5 ?_)
  case c1 =>
    intro j u hj
    match j, hj with
    | 0, hj => simp [be4] at hj; subst hj; simp [Addr.add]
    | 1, hj => simp [be4] at hj; subst hj; simp [Addr.add]
    | 2, hj => simp [be4] at hj; subst hj; simp [Addr.add]
    | 3, hj => simp [be4] at hj; subst hj; simp [Addr.add]
  case c2 => intro u hu; simp [be4] at hu; rcases hu with rfl | rfl | rfl | rfl <;> rfl
  case c3 => unfold maxLen; omega
  case c4 => omega
  case c5 => simp only [heap_size_alloc]; omega
  intro v' w2 hown' hgrow _ hat
  go_wp2
  go_ret
  obtain ⟨g, cap, rfl⟩ : ∃ g cap, v' = .slice (some ⟨g, 0, none⟩) (n + 4) cap := by
    rcases hown'.2 with ⟨_, h⟩ | ⟨g, cap, _, h, _⟩
    · omega
    · exact ⟨g, cap, h⟩
  refine ⟨g, cap, rfl, hown', ?_, ?_⟩
  · exact ((World.grownBy_alloc _ _ _).trans (World.grownBy_alloc _ _ _)).trans hgrow
  · rcases hat with h | h
    · exact .inl h
    · refine .inr ?_
      simp only [Value.ownBlock, Option.some.injEq] at h
      omega

/-- The encoder at block be: its two fields, its buffer's cells. -/
structure Enc (B be : Nat) (w : World) (sv ev : Value) (n : Nat) (xs : List Value) : Prop where
  blk : w.heap[be]? = some (.cells #[sv, ev] 36 (0, 0))
  own : w.ownsRow B 5 1 sv n xs
  ne : sv.ownBlock ≠ some be
  le : B ≤ be

theorem Enc.lt {B be : Nat} {w : World} {sv ev : Value} {n : Nat} {xs : List Value} (h : Enc B be w sv ev n xs) : be < w.heap.size := (Array.getElem?_eq_some_iff.1 h.blk).1
theorem Enc.c0 {B be : Nat} {w : World} {sv ev : Value} {n : Nat} {xs : List Value} (h : Enc B be w sv ev n xs) : w.cell? ⟨be, 0, none⟩ = some sv := by simp [World.cell?, h.blk]
theorem Enc.c1 {B be : Nat} {w : World} {sv ev : Value} {n : Nat} {xs : List Value} (h : Enc B be w sv ev n xs) : w.cell? ⟨be, 1, none⟩ = some ev := by simp [World.cell?, h.blk]
theorem Enc.f0 {B be : Nat} {w : World} {sv ev : Value} {n : Nat} {xs : List Value} (h : Enc B be w sv ev n xs) (o : Nat) : w.frozen? ⟨be, o, none⟩ = false := by simp [World.frozen?, h.blk]

theorem grownBy_setCell (w : World) (b o : Nat) (u : Value) : w.grownBy (w.setCell ⟨b, o, none⟩ u) (some b) :=
  ⟨rfl, rfl, rfl, by simp [World.setCell], fun k _ hne => Below.heap_setCell _ _ _ _ (fun e => hne (by rw [e]))⟩

theorem grownBy_undrew {w w1 : World} {row : Option Nat} (h : w.drew.grownBy w1 row) : w.grownBy w1 row := ⟨h.os, h.tape, h.output, h.size, h.block⟩

theorem Enc.kept {B be : Nat} {w w1 : World} {sv ev : Value} {n : Nat} {xs : List Value} (h : Enc B be w sv ev n xs) {row : Option Nat} (hg : w.grownBy w1 row) (hr : row ≠ some be) : w1.heap[be]? = some (.cells #[sv, ev] 36 (0, 0)) :=
  (hg.block be h.lt (fun e => hr e.symm)).trans h.blk

theorem store0 {w1 : World} {be : Nat} {sv ev sv' : Value} (hb : w1.heap[be]? = some (.cells #[sv, ev] 36 (0, 0))) : (w1.setCell ⟨be, 0, none⟩ sv').heap[be]? = some (.cells #[sv', ev] 36 (0, 0)) := by
  simp [World.setCell, Array.getElem?_modify, hb]

theorem store1 {w1 : World} {be : Nat} {sv ev ev' : Value} (hb : w1.heap[be]? = some (.cells #[sv, ev] 36 (0, 0))) : (w1.setCell ⟨be, 1, none⟩ ev').heap[be]? = some (.cells #[sv, ev'] 36 (0, 0)) := by
  simp [World.setCell, Array.getElem?_modify, hb]

theorem Enc.stored {B be n : Nat} {v : Int} {sv ev sv' : Value} {xs : List Value} {w w1 : World} (hE : Enc B be w sv ev n xs) (hown' : w1.ownsRow B 5 1 sv' (n + 4) (xs ++ be4 v)) (hgrow : w.grownBy w1 sv.ownBlock)
    (hat : sv'.ownBlock = sv.ownBlock ∨ ∃ g, sv'.ownBlock = some g ∧ w.heap.size ≤ g) : Enc B be (w1.setCell ⟨be, 0, none⟩ sv') sv' ev (n + 4) (xs ++ be4 v) ∧ Below B w (w1.setCell ⟨be, 0, none⟩ sv') := by
  have hne : sv'.ownBlock ≠ some be := by
    rcases hat with h | ⟨k, h, hk⟩
    · rw [h]; exact hE.ne
    · rw [h]; intro e; have := hE.lt; simp at e; omega
  refine ⟨⟨store0 (hE.kept hgrow hE.ne), hown'.kept (grownBy_setCell w1 be 0 sv') (.inr hne), hne, hE.le⟩, ?_⟩
  exact ((Below.refl B w).grown hgrow (Nat.le_trans hE.le (Nat.le_of_lt hE.lt)) (fun k hk => (hE.own.lt k hk).1)).setCell hE.le sv'

set_option maxHeartbeats 1000000 in
theorem uint32 (B be n : Nat) (v : Int) (hv0 : 0 ≤ v) (hv : v < 4294967296) (sv ev : Value) (xs : List Value) (w : World) (hE : Enc B be w sv ev n xs) (hlim : n + 4 ≤ 140737488355328) :
    Calls Tryf.prog 14 #[.pointer (some ⟨be, 0, none⟩), .int .u32 v] w fun e w' => ∃ sv', e = .returned (.tuple #[]) ∧ Enc B be w' sv' ev (n + 4) (xs ++ be4 v) ∧ Below B w w' := by
  have h0 := hE.c0
  have hf := hE.f0 0
  go_enter Tryf.func14, Tryf.ntmps14
  go_wp2
  go_region_with (go_at_call 17; refine (append32 B n v hv0 hv sv xs _ ?_ ?_ hlim).mono ?_; exact hE.own; exact (Nat.le_trans hE.le (Nat.le_of_lt hE.lt)); rintro e w1 ⟨g, cap, rfl, hown', hgrow0, hat⟩; have hgrow := grownBy_undrew hgrow0; clear hgrow0; have hc1 : w1.cell? ⟨be, 0, none⟩ = some sv := (by simp [World.cell?, hE.kept hgrow hE.ne]); have hf1 : w1.frozen? ⟨be, 0, none⟩ = false := (by simp [World.frozen?, hE.kept hgrow hE.ne]))
  all_goals
    go_wp2
    go_end0
    exact ⟨_, rfl, hE.stored hown' hgrow (by rcases hat with h | h; exact .inl h; exact .inr ⟨g, rfl, h⟩)⟩

/-- the error field: set or not -/
def ErrIs (b : Bool) (ev : Value) : Prop := (b = false ∧ ev = .nilIface) ∨ (b = true ∧ ∃ a, ev = .iface 47 (.pointer (some a)))

/-- a bound other than unbounded is broken -/
def broke (n mx : Int) : Bool := (mx != -1) && decide (mx < n)

theorem Enc.alloc {B be : Nat} {w : World} {sv ev : Value} {n : Nat} {xs : List Value} (h : Enc B be w sv ev n xs) (o : Obj) : Enc B be (w.alloc o) sv ev n xs :=
  ⟨(World.grownBy_alloc w o none).block be h.lt (by simp) |>.trans h.blk, h.own.alloc o, h.ne, h.le⟩

theorem Enc.drew {B be : Nat} {w : World} {sv ev : Value} {n : Nat} {xs : List Value} (h : Enc B be w sv ev n xs) : Enc B be w.drew sv ev n xs :=
  ⟨h.blk, h.own, h.ne, h.le⟩

theorem Enc.setErr {B be : Nat} {w : World} {sv ev : Value} {n : Nat} {xs : List Value} (h : Enc B be w sv ev n xs) (ev' : Value) : Enc B be (w.setCell ⟨be, 1, none⟩ ev') sv ev' n xs :=
  ⟨store1 h.blk, h.own.kept (grownBy_setCell w be 1 ev') (.inr h.ne), h.ne, h.le⟩

set_option maxHeartbeats 1000000 in
theorem count_plain (B be k : Nat) (f : ByteArray) (n mx : Int) (sv ev : Value) (xs : List Value) (w : World) (hE : Enc B be w sv ev k xs) (hlim : k + 4 ≤ 140737488355328)
    (b : Bool) (hev : ErrIs b ev) (hb : b = true ∨ broke n mx = false) :
    Calls Tryf.prog 12 #[.pointer (some ⟨be, 0, none⟩), .string f, .int .i64 n, .int .i64 mx] w fun e w' => ∃ sv', e = .returned (.tuple #[]) ∧ Enc B be w' sv' ev (k + 4) (xs ++ be4 (n % 4294967296)) ∧ Below B w w' := by
  have h1 := hE.c1
  rcases hev with ⟨rfl, rfl⟩ | ⟨rfl, a, rfl⟩
  · have hb' : broke n mx = false := by simpa using hb
    by_cases hm : mx = -1
    · have hm' : (mx != -1) = false := by simp [hm]
      clear hb hb'
      go_enter Tryf.func12, Tryf.ntmps12
      go_wp2_with fail
      refine (uint32 B be k (n % 4294967296) (by omega) (by omega) sv _ xs _ hE hlim).mono ?_
      rintro e w1 ⟨sv', rfl, hE1, hb1⟩
      go_wp2
      go_end0
      exact ⟨_, rfl, hE1, hb1⟩
    · have hm' : (mx != -1) = true := by simp [hm]
      have hn : ¬ mx < n := by simpa [broke, hm'] using hb'
      clear hb hb'
      go_enter Tryf.func12, Tryf.ntmps12
      go_wp2_with fail
      refine (uint32 B be k (n % 4294967296) (by omega) (by omega) sv _ xs _ hE hlim).mono ?_
      rintro e w1 ⟨sv', rfl, hE1, hb1⟩
      go_wp2
      go_end0
      exact ⟨_, rfl, hE1, hb1⟩
  · clear hb
    go_enter Tryf.func12, Tryf.ntmps12
    go_wp2_with fail
    refine (uint32 B be k (n % 4294967296) (by omega) (by omega) sv _ xs _ hE hlim).mono ?_
    rintro e w1 ⟨sv', rfl, hE1, hb1⟩
    go_wp2
    go_end0
    exact ⟨_, rfl, hE1, hb1⟩

set_option maxHeartbeats 1000000 in
theorem count_err (F : Interp) (B be k : Nat) (f : ByteArray) (n mx : Int) (sv : Value) (xs : List Value) (w : World) (hF : F.answers w.tape) (hE : Enc B be w sv .nilIface k xs) (hlim : k + 4 ≤ 140737488355328)
    (hb : broke n mx = true) :
    Calls Tryf.prog 12 #[.pointer (some ⟨be, 0, none⟩), .string f, .int .i64 n, .int .i64 mx] w fun e w' => ∃ sv' a, e = .returned (.tuple #[]) ∧ Enc B be w' sv' (.iface 47 (.pointer (some a))) (k + 4) (xs ++ be4 (n % 4294967296)) ∧ Below B w w' := by
  have h1 := hE.c1
  have hf := hE.f0 1
  have hlt := hE.lt
  have hm' : (mx != -1) = true := by simp [broke] at hb; simpa using hb.1
  have hn : mx < n := by simp [broke] at hb; exact hb.2
  clear hb
  go_enter Tryf.func12, Tryf.ntmps12
  go_wp2_with fail
  refine (facts.errorf F f n mx _ _ (by exact hF) (by simp [go_sem]) (by simp [go_sem]) (by simp [go_sem])).mono ?_
  rintro e w1 ⟨o, rfl, rfl⟩
  go_wp2_with fail
  refine (uint32 B be k (n % 4294967296) (by omega) (by omega) sv _ xs _ ((((hE.setErr _).alloc _).alloc _).drew) hlim).mono ?_
  rintro e w1 ⟨sv', rfl, hE1, hb1⟩
  go_wp2
  go_end0
  have hB := hE.le
  refine ⟨_, _, rfl, hE1, Below.trans ?_ hb1⟩
  have hz : B ≤ (w.setCell ⟨be, 1, none⟩ (.iface 47 (.pointer (some ⟨w.heap.size + 1, 0, none⟩)))).heap.size := by simp [World.setCell]; omega
  exact ((((Below.refl B w).setCell hB _).alloc hz _).alloc (by rw [heap_size_alloc]; omega) _).drew

/-- (*encoder).count -/
theorem count (F : Interp) (B be k : Nat) (f : ByteArray) (n mx : Int) (sv ev : Value) (xs : List Value) (w : World) (hF : F.answers w.tape) (hE : Enc B be w sv ev k xs) (hlim : k + 4 ≤ 140737488355328)
    (b : Bool) (hev : ErrIs b ev) :
    Calls Tryf.prog 12 #[.pointer (some ⟨be, 0, none⟩), .string f, .int .i64 n, .int .i64 mx] w fun e w' => ∃ sv' ev', e = .returned (.tuple #[]) ∧ Enc B be w' sv' ev' (k + 4) (xs ++ be4 (n % 4294967296)) ∧ ErrIs (b || broke n mx) ev' ∧ Below B w w' := by
  by_cases hb : b = true ∨ broke n mx = false
  · refine (count_plain B be k f n mx sv ev xs w hE hlim b hev hb).mono ?_
    rintro e w' ⟨sv', rfl, hE', hb'⟩
    refine ⟨sv', ev, rfl, hE', ?_, hb'⟩
    rcases hb with rfl | h
    · simpa using hev
    · rw [h]; simpa using hev
  · obtain ⟨rfl, hbr⟩ : b = false ∧ broke n mx = true := by simpa using hb
    obtain rfl : ev = .nilIface := by simpa [ErrIs] using hev
    refine (count_err F B be k f n mx sv xs w hF hE hlim hbr).mono ?_
    rintro e w' ⟨sv', a, rfl, hE', hb'⟩
    exact ⟨sv', _, rfl, hE', .inr ⟨by simp [hbr], a, rfl⟩, hb'⟩

set_option maxHeartbeats 1000000 in
theorem zzCount (F : Interp) (B be k : Nat) (f : ByteArray) (n mx : Int) (sv ev : Value) (xs : List Value) (w : World) (hF : F.answers w.tape) (hE : Enc B be w sv ev k xs) (hlim : k + 4 ≤ 140737488355328)
    (b : Bool) (hev : ErrIs b ev) :
    Calls Tryf.prog 7 #[.pointer (some ⟨be, 0, none⟩), .string f, .int .i64 n, .int .i64 mx] w fun e w' => ∃ sv' ev', e = .returned (.tuple #[]) ∧ Enc B be w' sv' ev' (k + 4) (xs ++ be4 (n % 4294967296)) ∧ ErrIs (b || broke n mx) ev' ∧ Below B w w' := by
  go_enter Tryf.func7, Tryf.ntmps7
  go_wp2_with fail
  refine (count F B be k f n mx sv ev xs w hF hE hlim b hev).mono ?_
  rintro e w' ⟨sv', ev', rfl, h1, h2, h3⟩
  go_wp2
  go_end0
  exact ⟨sv', ev', rfl, h1, h2, h3⟩

set_option maxHeartbeats 400000 in
theorem zzBuf (B be k : Nat) (ad : Option Addr) (ln cap : Nat) (ev : Value) (xs : List Value) (w : World) (hE : Enc B be w (.slice ad ln cap) ev k xs) :
    Calls Tryf.prog 8 #[.pointer (some ⟨be, 0, none⟩)] w fun e w' => e = .returned (.slice ad ln cap) ∧ w' = w := by
  have h0 := hE.c0
  go_enter Tryf.func8, Tryf.ntmps8
  go_wp2
  go_ret
  exact ⟨rfl, rfl⟩

set_option maxHeartbeats 400000 in
theorem zzErr (B be k : Nat) (sv ev : Value) (xs : List Value) (w : World) (hE : Enc B be w sv ev k xs) (b : Bool) (hev : ErrIs b ev) :
    Calls Tryf.prog 11 #[.pointer (some ⟨be, 0, none⟩)] w fun e w' => e = .returned ev ∧ w' = w := by
  have h0 := hE.c1
  rcases hev with ⟨rfl, rfl⟩ | ⟨rfl, a, rfl⟩ <;>
  · go_enter Tryf.func11, Tryf.ntmps11
    go_wp2
    go_ret
    exact ⟨rfl, rfl⟩

end Go.Proofs.Qxb6613103aFmt.enc
