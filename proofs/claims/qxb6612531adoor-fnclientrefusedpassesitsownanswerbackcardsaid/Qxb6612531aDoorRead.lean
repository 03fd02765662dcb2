import Derived.Test.Qxb6612531aDoorRows
import Derived.WalkKit
import Derived.WalkSpells
import Derived.OwnWalk
import Derived.RowKit3
import Derived.Below
import Derived.Laws.AppendOwn
import Derived.Maps.AppendAt
import Derived.Deep.Draws
import Derived.Deep.QuietTactic
import Derived.BigQuiet
import Derived.WalkLawsBesides
import Derived.Stop.IfaceNil
namespace Go.Proofs.Qxb6612531aDoor.read
open Go.RowKit

/-- The reader at block rb, over a text whose bytes lie in block tb. -/
structure Rd (w : World) (rb tb : Nat) (ts : Option Addr) (t : Nat → Int) (L cap : Nat) (p dp : Int) : Prop where
  blk : w.heap[rb]? = some (.cells #[.slice ts L cap, .int .i64 p, .int .i64 dp] 39 (0, 0))
  adr : 0 < L → ts = some ⟨tb, 0, none⟩
  byt : ∀ i, i < L → ∃ c, w.heap[tb]? = some (.cells c 5 (0, 0)) ∧ c[i]? = some (.int .u8 (t i))

theorem cell_at {w : World} {b : Nat} {arr : Array Value} {t : TypeId} (h : w.heap[b]? = some (.cells arr t (0, 0))) {o : Nat} {v : Value} (ha : arr[o]? = some v) : w.cell? ⟨b, o, none⟩ = some v := by
  simp [World.cell?, h, ha]
theorem frozen_at {w : World} {b : Nat} {arr : Array Value} {t : TypeId} (h : w.heap[b]? = some (.cells arr t (0, 0))) (o : Nat) : w.frozen? ⟨b, o, none⟩ = false := by
  simp [World.frozen?, h]
theorem heap_setCell_at {w : World} {b k : Nat} {arr : Array Value} {t : TypeId} (v : Value) (h : w.heap[b]? = some (.cells arr t (0, 0))) : (w.setCell ⟨b, k, none⟩ v).heap[b]? = some (.cells (arr.setIfInBounds k v) t (0, 0)) := by
  simp [World.setCell, Array.getElem?_modify, h]
theorem grownBy_setCell (w : World) (b o : Nat) (u : Value) : w.grownBy (w.setCell ⟨b, o, none⟩ u) (some b) :=
  ⟨rfl, rfl, rfl, by simp [World.setCell], fun k _ hne => Below.heap_setCell _ _ _ _ (fun e => hne (by rw [e]))⟩
theorem grownBy_drewN (w : World) (n : Nat) (row : Option Nat) : w.grownBy (w.drewN n) row := ⟨rfl, rfl, rfl, Nat.le_refl _, fun _ _ _ => rfl⟩
theorem block_kept {w w' : World} {row : Option Nat} (hg : w.grownBy w' row) {b t : Nat} {a : Array Value} (hb : w.heap[b]? = some (.cells a t (0, 0))) (hne : row ≠ some b) : w'.heap[b]? = some (.cells a t (0, 0)) :=
  (hg.block b (Array.getElem?_eq_some_iff.1 hb).1 (fun x => hne x.symm)).trans hb

section
variable {w w' : World} {rb tb : Nat} {ts : Option Addr} {t : Nat → Int} {L cap : Nat} {p dp : Int}

theorem Rd.c0 (h : Rd w rb tb ts t L cap p dp) : w.cell? ⟨rb, 0, none⟩ = some (.slice ts L cap) := cell_at h.blk rfl
theorem Rd.c1 (h : Rd w rb tb ts t L cap p dp) : w.cell? ⟨rb, 1, none⟩ = some (.int .i64 p) := cell_at h.blk rfl
theorem Rd.c2 (h : Rd w rb tb ts t L cap p dp) : w.cell? ⟨rb, 2, none⟩ = some (.int .i64 dp) := cell_at h.blk rfl
theorem Rd.f (h : Rd w rb tb ts t L cap p dp) (o : Nat) : w.frozen? ⟨rb, o, none⟩ = false := frozen_at h.blk o
theorem Rd.cell (h : Rd w rb tb ts t L cap p dp) (i : Nat) (hi : i < L) : w.cell? ⟨tb, i, none⟩ = some (.int .u8 (t i)) := by
  obtain ⟨c, hb, hc⟩ := h.byt i hi
  exact cell_at hb hc
theorem Rd.drewN (h : Rd w rb tb ts t L cap p dp) (d : Nat) : Rd (w.drewN d) rb tb ts t L cap p dp := ⟨h.blk, h.adr, h.byt⟩

/-- the reader's block alone has been written -/
theorem Rd.wrote {p' dp' : Int} (h : Rd w rb tb ts t L cap p dp) (hg : w.grownBy w' (some rb)) (hb : w'.heap[rb]? = some (.cells #[.slice ts L cap, .int .i64 p', .int .i64 dp'] 39 (0, 0))) : Rd w' rb tb ts t L cap p' dp' := by
  refine ⟨hb, h.adr, fun i hi => ?_⟩
  obtain ⟨c, hc, hv⟩ := h.byt i hi
  refine ⟨c, block_kept hg hc ?_, hv⟩
  intro e
  cases e
  have := h.blk
  rw [hc] at this
  simp at this

theorem Rd.setPos (h : Rd w rb tb ts t L cap p dp) (d : Nat) (p' : Int) : Rd ((w.drewN d).setCell ⟨rb, 1, none⟩ (.int .i64 p')) rb tb ts t L cap p' dp ∧ w.grownBy ((w.drewN d).setCell ⟨rb, 1, none⟩ (.int .i64 p')) (some rb) := by
  have hg : w.grownBy ((w.drewN d).setCell ⟨rb, 1, none⟩ (.int .i64 p')) (some rb) := (grownBy_drewN w d _).trans (grownBy_setCell _ _ _ _)
  exact ⟨h.wrote hg (heap_setCell_at (w := w.drewN d) _ h.blk), hg⟩

theorem Rd.setDepth (h : Rd w rb tb ts t L cap p dp) (dp' : Int) : Rd (w.setCell ⟨rb, 2, none⟩ (.int .i64 dp')) rb tb ts t L cap p dp' ∧ w.grownBy (w.setCell ⟨rb, 2, none⟩ (.int .i64 dp')) (some rb) := by
  have hg : w.grownBy (w.setCell ⟨rb, 2, none⟩ (.int .i64 dp')) (some rb) := grownBy_setCell _ _ _ _
  exact ⟨h.wrote hg (heap_setCell_at _ h.blk), hg⟩
end

set_option maxHeartbeats 1000000 in
/-- (*jsonReader).next, the byte is there -/
theorem next_yes (rb tb : Nat) (ts : Option Addr) (t : Nat → Int) (L cap p : Nat) (dp c : Int) (w : World) (h : Rd w rb tb ts t L cap p dp) (hL : L ≤ 1048576) (hp : p < L) (hc : t p = c) :
    Calls Tryd.prog 13 #[.pointer (some ⟨rb, 0, none⟩), .int .u8 c] w fun e w' => e = .returned (.bool true) ∧ Rd w' rb tb ts t L cap ((p : Int) + 1) dp ∧ w.grownBy w' (some rb) := by
  have h0 := h.c0
  have h1 := h.c1
  have hf := h.f 1
  have hb := h.cell p hp
  obtain rfl := h.adr (by omega)
  have hp' : (p : Int) < L := by omega
  have hL' : (L : Int) ≤ 1048576 := by omega
  have hs := h.setPos
  rw [hc] at hb
  clear hc
  go_enter Tryd.func13, Tryd.ntmps13
  go_wp2
  go_quiet (fail)
  go_wp2
  go_ret
  exact ⟨rfl, hs nq _⟩

set_option maxHeartbeats 1000000 in
/-- .. it is not -/
theorem next_no (rb tb : Nat) (ts : Option Addr) (t : Nat → Int) (L cap p : Nat) (dp c : Int) (w : World) (h : Rd w rb tb ts t L cap p dp) (hL : L ≤ 1048576) (hc : p < L → t p ≠ c) :
    Calls Tryd.prog 13 #[.pointer (some ⟨rb, 0, none⟩), .int .u8 c] w fun e w' => e = .returned (.bool false) ∧ Rd w' rb tb ts t L cap p dp ∧ w.grownBy w' (some rb) := by
  have h0 := h.c0
  have h1 := h.c1
  have hL' : (L : Int) ≤ 1048576 := by omega
  have hs := h.drewN
  have hg := fun d => grownBy_drewN w d (some rb)
  by_cases hp : p < L
  · have hb := h.cell p hp
    obtain rfl := h.adr (by omega)
    have hp' : (p : Int) < L := by omega
    have hne : (t p == c) = false := beq_eq_false_iff_ne.2 (hc hp)
    clear hc
    go_enter Tryd.func13, Tryd.ntmps13
    go_wp2
    go_quiet (fail)
    go_wp2
    go_ret
    exact ⟨rfl, hs nq, hg nq⟩
  · have hp' : decide ((p : Int) < L) = false := by simp; omega
    clear hc
    go_enter Tryd.func13, Tryd.ntmps13
    go_wp2
    go_quiet (fail)
    go_wp2
    go_ret
    exact ⟨rfl, hs nq, hg nq⟩

set_option maxHeartbeats 1000000 in
theorem enter_ok (rb tb : Nat) (ts : Option Addr) (t : Nat → Int) (L cap : Nat) (p dp : Int) (w : World) (h : Rd w rb tb ts t L cap p dp) (hd0 : 0 ≤ dp) (hd : dp < 10000) :
    Calls Tryd.prog 15 #[.pointer (some ⟨rb, 0, none⟩)] w fun e w' => e = .returned .nilIface ∧ Rd w' rb tb ts t L cap p (dp + 1) ∧ w.grownBy w' (some rb) := by
  have h2 := h.c2
  have hf := h.f 2
  have hs := h.setDepth (dp + 1)
  go_enter Tryd.func15, Tryd.ntmps15
  go_wp2
  go_ret
  exact ⟨rfl, hs⟩

set_option maxHeartbeats 1000000 in
theorem enter_full (rb tb : Nat) (ts : Option Addr) (t : Nat → Int) (L cap : Nat) (p : Int) (ev : Addr) (w : World) (h : Rd w rb tb ts t L cap p 10000) (hg : w.cell? ⟨0, 0, none⟩ = some (.iface 76 (.pointer (some ev)))) :
    Calls Tryd.prog 15 #[.pointer (some ⟨rb, 0, none⟩)] w fun e w' => e = .returned (.iface 76 (.pointer (some ev))) ∧ Rd w' rb tb ts t L cap p 10001 ∧ w.grownBy w' (some rb) := by
  have h2 := h.c2
  have hf := h.f 2
  have hs := h.setDepth 10001
  go_enter Tryd.func15, Tryd.ntmps15
  go_wp2
  go_ret
  exact ⟨rfl, hs⟩

/-! ### skipSpace -/
def sp (b : Int) : Bool := b == 32 || b == 9 || b == 10 || b == 13
def skipF (t : Nat → Int) : Nat → Nat → Nat
  | 0, p => p
  | n + 1, p => if sp (t p) then skipF t n (p + 1) else p
def skip (t : Nat → Int) (L p : Nat) : Nat := skipF t (L - p) p

theorem skip_end (t : Nat → Int) (L p : Nat) (h : ¬ p < L) : skip t L p = p := by
  unfold skip
  rw [show L - p = 0 from by omega]
  rfl
theorem skip_no (t : Nat → Int) (L p : Nat) (h : sp (t p) = false) : skip t L p = p := by
  unfold skip
  cases L - p with
  | zero => rfl
  | succ n => simp [skipF, h]
theorem skip_yes (t : Nat → Int) (L p : Nat) (hp : p < L) (h : sp (t p) = true) : skip t L p = skip t L (p + 1) := by
  unfold skip
  rw [show L - p = (L - (p + 1)) + 1 from by omega]
  simp [skipF, h]

/-- the position in the reader's block: for a measure -/
def posOf (rb : Nat) (w : World) : Nat := (intOf ((w.cell? ⟨rb, 1, none⟩).getD undef)).toNat

theorem posOf_rd {w : World} {rb tb : Nat} {ts : Option Addr} {t : Nat → Int} {L cap q : Nat} {p dp : Int} (h : Rd w rb tb ts t L cap p dp) (hp : p = (q : Nat)) : posOf rb w = q := by
  unfold posOf
  rw [h.c1, hp]
  simp [intOf]

set_option maxHeartbeats 1000000 in
theorem skipSpace (rb tb : Nat) (ts : Option Addr) (t : Nat → Int) (L cap p : Nat) (dp : Int) (w : World) (h : Rd w rb tb ts t L cap p dp) (hL : L ≤ 1048576) (hp : p ≤ L) :
    Calls Tryd.prog 16 #[.pointer (some ⟨rb, 0, none⟩)] w fun e w' => e = .returned (.tuple #[]) ∧ Rd w' rb tb ts t L cap ((skip t L p : Nat) : Int) dp ∧ w.grownBy w' (some rb) := by
  have hL' : (L : Int) ≤ 1048576 := by omega
  go_enter Tryd.func16, Tryd.ntmps16
  go_wp2
  go_loopw [] (fun wr => ∃ q : Nat, q ≤ L ∧ Rd wr rb tb ts t L cap q dp ∧ Hid (skip t L p = skip t L q) ∧ w.grownBy wr (some rb)) (fun wr => L - posOf rb wr)
  case atStart => exact ⟨p, hp, h, rfl, ⟨rfl, rfl, rfl, Nat.le_refl _, fun _ _ _ => rfl⟩⟩
  case round =>
    obtain ⟨q, hq, hR, HS, hg⟩ := hrel
    have h0 := hR.c0
    have h1 := hR.c1
    have hf := hR.f 1
    have hs := hR.setPos
    have hd := hR.drewN
    by_cases hlt : q < L
    · have hlt' : (q : Int) < L := by omega
      have hb := hR.cell q hlt
      obtain rfl := hR.adr (by omega)
      by_cases hsp : sp (t q) = true
      · have H1 : Hid (skip t L q = skip t L (q + 1)) := skip_yes t L q hlt hsp
        have hcase : t q = 32 ∨ t q = 9 ∨ t q = 10 ∨ t q = 13 := by simpa [sp, or_assoc] using hsp
        clear hsp
        rcases hcase with hc | hc | hc | hc
        all_goals
          rw [hc] at hb
          clear hc
          go_wp2
          go_quiet (fail)
          go_wp2
          go_quiet (fail)
          go_wp2
          go_roundw
          case rel => exact ⟨q + 1, by omega, (hs _ _).1, HS.out.trans H1.out, hg.trans (hs _ _).2⟩
          case measure => rw [posOf_rd (q := q + 1) (hs _ _).1 (by omega), posOf_rd hR rfl]; omega
      · have H1 : Hid (skip t L q = q) := skip_no t L q (by simpa using hsp)
        have hno : ((t q == 32) = false ∧ (t q == 9) = false) ∧ (t q == 10) = false ∧ (t q == 13) = false := by
          simp only [sp, Bool.or_eq_true, not_or, Bool.not_eq_true] at hsp
          exact ⟨⟨hsp.1.1.1, hsp.1.1.2⟩, hsp.1.2, hsp.2⟩
        obtain ⟨⟨n1, n2⟩, n3, n4⟩ := hno
        clear hsp
        generalize t q = tq at hb n1 n2 n3 n4
        go_wp2
        go_quiet (fail)
        go_wp2
        go_quiet (fail)
        go_wp2
        exact bodyPost_ret (v := .tuple #[]) (by simp [results, Tryd.results16, go_sem]) rfl ⟨rfl, by rw [HS.out, H1.out]; exact hd _, hg.trans (grownBy_drewN _ _ _)⟩
    · have H1 : Hid (skip t L q = q) := skip_end t L q hlt
      have hlt' : ¬ (q : Int) < L := by omega
      go_wp2
      go_quiet (fail)
      go_wp2
      go_end0
      exact ⟨rfl, by rw [HS.out, H1.out]; exact hd _, hg.trans (grownBy_drewN _ _ _)⟩

/-! ### the closure that items is handed: it reads the byte 118 -/
theorem glob_kept {w w' : World} {rb : Nat} {v : Value} (hg : w.grownBy w' (some rb)) (h : w.cell? ⟨0, 0, none⟩ = some v) (hrb : 0 < rb) : w'.cell? ⟨0, 0, none⟩ = some v :=
  hg.cell h (by simp; omega)

/-- the error value -/
def err (ev : Addr) : Value := .iface 76 (.pointer (some ev))

set_option maxHeartbeats 1000000 in
theorem item_yes (rb tb vb : Nat) (ts : Option Addr) (t : Nat → Int) (L cap p : Nat) (dp : Int) (w : World) (h : Rd w rb tb ts t L cap p dp) (hL : L ≤ 1048576) (hv : w.heap[vb]? = some (.cells #[.pointer (some ⟨rb, 0, none⟩)] 37 (0, 0))) (hp : p < L) (hc : t p = 118) :
    Calls Tryd.prog 12 #[.pointer (some ⟨vb, 0, none⟩)] w fun e w' => e = .returned .nilIface ∧ Rd w' rb tb ts t L cap ((p : Int) + 1) dp ∧ w.grownBy w' (some rb) := by
  have hv0 := cell_at hv (o := 0) (v := .pointer (some ⟨rb, 0, none⟩)) rfl
  go_enter Tryd.func12, Tryd.ntmps12
  go_wp2_with fail
  refine (next_yes rb tb ts t L cap p dp 118 w h hL hp hc).mono ?_
  rintro e w1 ⟨rfl, hR1, hg1⟩
  go_wp2
  go_ret
  exact ⟨rfl, hR1, hg1⟩

set_option maxHeartbeats 1000000 in
theorem item_no (rb tb vb : Nat) (ts : Option Addr) (t : Nat → Int) (L cap p : Nat) (dp : Int) (ev : Addr) (w : World) (h : Rd w rb tb ts t L cap p dp) (hL : L ≤ 1048576) (hv : w.heap[vb]? = some (.cells #[.pointer (some ⟨rb, 0, none⟩)] 37 (0, 0))) (hc : p < L → t p ≠ 118) (hrb : 0 < rb) (he : w.cell? ⟨0, 0, none⟩ = some (err ev)) :
    Calls Tryd.prog 12 #[.pointer (some ⟨vb, 0, none⟩)] w fun e w' => e = .returned (err ev) ∧ Rd w' rb tb ts t L cap p dp ∧ w.grownBy w' (some rb) := by
  have hv0 := cell_at hv (o := 0) (v := .pointer (some ⟨rb, 0, none⟩)) rfl
  go_enter Tryd.func12, Tryd.ntmps12
  go_wp2_with fail
  refine (next_no rb tb ts t L cap p dp 118 w h hL hc).mono ?_
  rintro e w1 ⟨rfl, hR1, hg1⟩
  have he1 := glob_kept hg1 he hrb
  unfold err at he1
  go_wp2
  go_ret
  exact ⟨rfl, hR1, hg1⟩

/-! ### items, in plain words: refused or not, and where it ends -/
def loopP (t : Nat → Int) (L : Nat) (e : Int) : Nat → Nat → Bool × Nat
  | 0, p => (true, p)
  | f + 1, p =>
    if p < L ∧ t p = 118 then
      let q := skip t L (p + 1)
      if q < L ∧ t q = 44 then loopP t L e f (skip t L (q + 1))
      else if q < L ∧ t q = e then (false, q + 1) else (true, q)
    else (true, p)
def itemsP (t : Nat → Int) (L : Nat) (e : Int) (p : Nat) : Bool × Nat :=
  let q := skip t L p
  if q < L ∧ t q = e then (false, q + 1) else loopP t L e 1048577 q

theorem loopP_eq (t : Nat → Int) (L : Nat) (e : Int) (f p : Nat) : loopP t L e (f + 1) p = if p < L ∧ t p = 118 then (if skip t L (p + 1) < L ∧ t (skip t L (p + 1)) = 44 then loopP t L e f (skip t L (skip t L (p + 1) + 1)) else if skip t L (p + 1) < L ∧ t (skip t L (p + 1)) = e then (false, skip t L (p + 1) + 1) else (true, skip t L (p + 1))) else (true, p) := rfl
theorem itemsP_eq (t : Nat → Int) (L : Nat) (e : Int) (p : Nat) : itemsP t L e p = if skip t L p < L ∧ t (skip t L p) = e then (false, skip t L p + 1) else loopP t L e 1048577 (skip t L p) := rfl

theorem skipF_le (t : Nat → Int) : ∀ n p, p ≤ skipF t n p ∧ skipF t n p ≤ p + n
  | 0, p => ⟨Nat.le_refl _, Nat.le_refl _⟩
  | n + 1, p => by
    unfold skipF
    split
    · have := skipF_le t n (p + 1); omega
    · omega
theorem skip_le (t : Nat → Int) (L p : Nat) (h : p ≤ L) : p ≤ skip t L p ∧ skip t L p ≤ L := by
  have := skipF_le t (L - p) p
  unfold skip
  omega

def errOf (b : Bool) (ev : Addr) : Value := if b then err ev else .nilIface
def depOf (b : Bool) (dp : Int) : Int := if b then dp + 1 else dp

/-- what items leaves -/
def Left (rb tb : Nat) (ts : Option Addr) (t : Nat → Int) (L cap : Nat) (dp : Int) (ev : Addr) (R : Bool × Nat) (w : World) (r : Ending) (w' : World) : Prop :=
  r = .returned (errOf R.1 ev) ∧ Rd w' rb tb ts t L cap R.2 (depOf R.1 dp) ∧ w.grownBy w' (some rb)

set_option maxRecDepth 100000 in
set_option maxHeartbeats 2000000 in
/-- the loop, from an item on -/
theorem items (rb tb vb : Nat) (ts : Option Addr) (t : Nat → Int) (L cap p : Nat) (dp e : Int) (ev : Addr) (w : World) (h : Rd w rb tb ts t L cap p dp) (hL : L ≤ 1048576) (hp : p ≤ L) (hd0 : 0 ≤ dp) (hd1 : dp < 10000) (hv : w.heap[vb]? = some (.cells #[.pointer (some ⟨rb, 0, none⟩)] 37 (0, 0))) (hrb : 0 < rb) (he : w.cell? ⟨0, 0, none⟩ = some (err ev)) :
    Calls Tryd.prog 11 #[.pointer (some ⟨rb, 0, none⟩), .int .u8 e, .func (.func 12) #[] #[.pointer (some ⟨vb, 0, none⟩)]] w fun r w' => Left rb tb ts t L cap dp ev (itemsP t L e p) w r w' := by
  have hvr : vb ≠ rb := by rintro rfl; have := h.blk; rw [hv] at this; simp at this
  have hvk : ∀ w', w.grownBy w' (some rb) → w'.heap[vb]? = some (.cells #[.pointer (some ⟨rb, 0, none⟩)] 37 (0, 0)) := fun w' hg => block_kept hg hv (by simp; omega)
  have hek : ∀ w', w.grownBy w' (some rb) → w'.cell? ⟨0, 0, none⟩ = some (err ev) := fun w' hg => glob_kept hg he hrb
  have hsk := skip_le t L p hp
  go_enter Tryd.func11, Tryd.ntmps11
  go_wp2_with fail
  refine (enter_ok rb tb ts t L cap p dp w h hd0 hd1).mono ?_
  rintro e w1 ⟨rfl, hR1, hg1⟩
  go_wp2_with fail
  refine (skipSpace rb tb ts t L cap p (dp + 1) w1 hR1 hL hp).mono ?_
  rintro e w2 ⟨rfl, hR2, hg2⟩
  by_cases hend : skip t L p < L ∧ t (skip t L p) = e
  · have HR : Hid (itemsP t L e p = (false, skip t L p + 1)) := show itemsP t L e p = _ by rw [itemsP_eq, if_pos hend]
    go_wp2_with fail
    refine (next_yes rb tb ts t L cap (skip t L p) (dp + 1) e w2 hR2 hL hend.1 hend.2).mono ?_
    rintro e w3 ⟨rfl, hR3, hg3⟩
    have hc2 := hR3.c2
    have hf2 := hR3.f 2
    have hs := hR3.setDepth dp
    clear hend
    go_wp2
    go_ret
    rw [HR.out]
    exact ⟨rfl, hs.1, ((hg1.trans hg2).trans hg3).trans hs.2⟩
  · have HR : Hid (itemsP t L e p = loopP t L e 1048577 (skip t L p)) := show itemsP t L e p = _ by rw [itemsP_eq, if_neg hend]
    go_wp2_with fail
    refine (next_no rb tb ts t L cap (skip t L p) (dp + 1) e w2 hR2 hL (fun h1 h2 => hend ⟨h1, h2⟩)).mono ?_
    rintro e w3 ⟨rfl, hR3, hg3⟩
    clear hend
    go_wp2
    go_loopw [] (fun wr => ∃ f q : Nat, q ≤ L ∧ L < q + f ∧ Rd wr rb tb ts t L cap q (dp + 1) ∧ Hid (itemsP t L e p = loopP t L e f q) ∧ w.grownBy wr (some rb)) (fun wr => L - posOf rb wr)
    case atStart => exact ⟨1048577, skip t L p, hsk.2, by omega, hR3, HR, (hg1.trans hg2).trans hg3⟩
    case round =>
      clear HR hR1 hR2 hR3 hg1 hg2 hg3 h
      obtain ⟨f, q, hq, hf, hR, HR, hg⟩ := hrel
      obtain ⟨f, rfl⟩ : ∃ g, f = g + 1 := ⟨f - 1, by omega⟩
      by_cases hit : q < L ∧ t q = 118
      · have hs1 := skip_le t L (q + 1) (by omega)
        obtain ⟨q2, hq2⟩ : ∃ q2, skip t L (q + 1) = q2 := ⟨_, rfl⟩
        rw [hq2] at hs1
        have HQ2 : Hid (skip t L (q + 1) = q2) := hq2
        clear hq2
        go_wp2_with fail
        refine (item_yes rb tb vb ts t L cap q (dp + 1) wr hR hL (hvk _ hg) hit.1 hit.2).mono ?_
        rintro r w4 ⟨rfl, hR4, hg4⟩
        go_wp2_with fail
        refine (skipSpace rb tb ts t L cap (q + 1) (dp + 1) w4 hR4 hL (by omega)).mono ?_
        rintro r w5 ⟨rfl, hR5, hg5⟩
        rw [HQ2.out] at hR5
        by_cases hcom : q2 < L ∧ t q2 = 44
        · have HL : Hid (loopP t L e (f + 1) q = loopP t L e f (skip t L (q2 + 1))) := show loopP t L e (f + 1) q = _ by rw [loopP_eq, if_pos hit, HQ2.out, if_pos hcom]
          have hs2 := skip_le t L (q2 + 1) (by omega)
          go_wp2_with fail
          refine (next_yes rb tb ts t L cap q2 (dp + 1) 44 w5 hR5 hL hcom.1 hcom.2).mono ?_
          rintro r w6 ⟨rfl, hR6, hg6⟩
          go_wp2_with fail
          refine (skipSpace rb tb ts t L cap (q2 + 1) (dp + 1) w6 hR6 hL (by omega)).mono ?_
          rintro r w7 ⟨rfl, hR7, hg7⟩
          go_wp2
          go_roundw
          case rel => exact ⟨f, skip t L (q2 + 1), hs2.2, by omega, hR7, HR.out.trans HL.out, (((hg.trans hg4).trans hg5).trans hg6).trans hg7⟩
          case measure => rw [posOf_rd hR7 rfl, posOf_rd hR rfl]; omega
        · go_wp2_with fail
          refine (next_no rb tb ts t L cap q2 (dp + 1) 44 w5 hR5 hL (fun h1 h2 => hcom ⟨h1, h2⟩)).mono ?_
          rintro r w6 ⟨rfl, hR6, hg6⟩
          by_cases hend : q2 < L ∧ t q2 = e
          · have HL : Hid (itemsP t L e p = (false, q2 + 1)) := show itemsP t L e p = _ by rw [HR.out, loopP_eq, if_pos hit, HQ2.out, if_neg hcom, if_pos hend]
            clear HR
            go_wp2_with fail
            refine (next_yes rb tb ts t L cap q2 (dp + 1) e w6 hR6 hL hend.1 hend.2).mono ?_
            rintro r w7 ⟨rfl, hR7, hg7⟩
            have hc2 := hR7.c2
            have hf2 := hR7.f 2
            have hs := hR7.setDepth dp
            clear hend hcom hit
            go_wp2
            go_ret
            rw [HL.out]
            exact ⟨rfl, hs.1, ((((hg.trans hg4).trans hg5).trans hg6).trans hg7).trans hs.2⟩
          · have HL : Hid (itemsP t L e p = (true, q2)) := show itemsP t L e p = _ by rw [HR.out, loopP_eq, if_pos hit, HQ2.out, if_neg hcom, if_neg hend]
            clear HR
            go_wp2_with fail
            refine (next_no rb tb ts t L cap q2 (dp + 1) e w6 hR6 hL (fun h1 h2 => hend ⟨h1, h2⟩)).mono ?_
            rintro r w7 ⟨rfl, hR7, hg7⟩
            have hge := hek _ ((((hg.trans hg4).trans hg5).trans hg6).trans hg7)
            unfold err at hge
            clear hend hcom hit
            go_wp2
            go_ret
            rw [HL.out]
            exact ⟨rfl, hR7, (((hg.trans hg4).trans hg5).trans hg6).trans hg7⟩
      · have HL : Hid (itemsP t L e p = (true, q)) := show itemsP t L e p = _ by rw [HR.out, loopP_eq, if_neg hit]
        clear HR
        go_wp2_with fail
        refine (item_no rb tb vb ts t L cap q (dp + 1) ev wr hR hL (hvk _ hg) (fun h1 h2 => hit ⟨h1, h2⟩) hrb (hek _ hg)).mono ?_
        rintro r w4 ⟨rfl, hR4, hg4⟩
        unfold err
        clear hit
        go_wp2
        go_ret
        rw [HL.out]
        exact ⟨rfl, hR4, hg.trans hg4⟩
end Go.Proofs.Qxb6612531aDoor.read
