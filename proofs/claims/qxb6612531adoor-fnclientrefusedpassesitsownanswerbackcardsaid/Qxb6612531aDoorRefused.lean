import Derived.Test.Qxb6612531aDoorMiss
import Derived.Test.Qxb6612531aDoorRead
namespace Go.Proofs.Qxb6612531aDoor.refused
open Go.RowKit read asLaw

/-- the handle that errors.errorType holds -/
def ErrType (w : World) : Prop := w.cell? ⟨1, 0, none⟩ = some (.iface 64 (.agg #[.pointer (some ⟨2, 30, none⟩)]))

theorem below_grown {w w' : World} {B : Nat} {row : Option Nat} (h : w.grownBy w' row) (hB : B ≤ w.heap.size) (hr : ∀ k, row = some k → B ≤ k) : Below B w w' :=
  (Below.refl B w).grown h hB hr

theorem hit (b tb : Nat) (old : Value) (w : World) (hg : ErrType w) (ht : w.heap[tb]? = some (.cells #[old] 32 (0, 0))) :
    Calls Tryd.prog 14 #[.iface 32 (.pointer (some ⟨b, 0, none⟩)), .iface 44 (.pointer (some ⟨tb, 0, none⟩))] w fun ev w' => ev = .returned (.bool true) ∧ w'.heap[tb]? = some (.cells #[.pointer (some ⟨b, 0, none⟩)] 32 (0, 0)) ∧ w.grownBy w' (some tb) := by
  refine (as_hit ⟨b, 0, none⟩ ⟨tb, 0, none⟩ old w hg (cell_at ht rfl) (frozen_at ht 0)).mono ?_
  rintro ev w' ⟨rfl, rfl⟩
  have hlt : tb < w.heap.size := (Array.getElem?_eq_some_iff.1 ht).1
  have ga : ∀ (u : World) (o : Obj), u.grownBy (u.alloc o) (some tb) := fun u o => ⟨rfl, rfl, rfl, by simp, fun k hk _ => Below.heap_alloc _ _ _ hk⟩
  have hG := (((ga w (.cells #[.pointer (some ⟨tb, 0, none⟩)] 44)).trans (ga _ (.cells #[.pointer (some ⟨2, 44, none⟩), .pointer (some ⟨w.heap.size, 0, none⟩), .int .u64 150] 53))).trans (ga _ (.cells #[.pointer (some ⟨2, 44, none⟩), .pointer (some ⟨w.heap.size, 0, none⟩), .int .u64 150] 53))).trans (ga _ (.cells #[.pointer (some ⟨b, 0, none⟩)] 32))
  refine ⟨rfl, ?_, hG.trans (grownBy_setCell _ _ _ _)⟩
  refine (heap_setCell_at (arr := #[old]) (t := 32) _ ?_).trans (by simp)
  rw [Below.heap_alloc _ _ _ (by simp; omega), Below.heap_alloc _ _ _ (by simp; omega), Below.heap_alloc _ _ _ (by simp; omega), Below.heap_alloc _ _ _ hlt]
  exact ht

theorem miss (b tb : Nat) (w : World) (hg : ErrType w) :
    Calls Tryd.prog 14 #[.iface 45 (.pointer (some ⟨b, 0, none⟩)), .iface 44 (.pointer (some ⟨tb, 0, none⟩))] w fun ev w' => ev = .returned (.bool false) ∧ w.grownBy w' none := by
  refine (as_miss ⟨b, 0, none⟩ ⟨tb, 0, none⟩ w hg).mono ?_
  rintro ev w' ⟨rfl, rfl⟩
  have ga : ∀ (u : World) (o : Obj), u.grownBy (u.alloc o) none := fun u o => ⟨rfl, rfl, rfl, by simp, fun k hk _ => Below.heap_alloc _ _ _ hk⟩
  exact ⟨rfl, ((ga w _).trans (ga _ _)).trans (ga _ _)⟩

theorem ErrType.later {w w' : World} {B : Nat} (h : ErrType w) (hb : Below B w w') (hB : 1 < B) : ErrType w' := by
  unfold ErrType World.cell? at h ⊢
  rw [hb.block 1 hB]
  exact h
theorem ErrType.lt {w : World} (h : ErrType w) : 1 < w.heap.size := World.block_lt_of_cell? _ _ h

/-- the error code's text -/
def code : ByteArray := { data := #[105, 110, 118, 97, 108, 105, 100, 95, 99, 108, 105, 101, 110, 116] }
/-- a TokenError that lies in block nb -/
def Tok (w : World) (nb : Nat) (r j d : ByteArray) : Prop := w.heap[nb]? = some (.cells #[.string code, .string r, .string j, .string d] 48 (0, 0))

set_option maxRecDepth 100000 in
set_option maxHeartbeats 4000000 in
theorem clientRefused_hit (b : Nat) (r d j : ByteArray) (w : World) (hg : ErrType w) (hb : w.heap[b]? = some (.cells #[.string r, .string d] 35 (0, 0))) :
    Calls Tryd.prog 9 #[.iface 32 (.pointer (some ⟨b, 0, none⟩)), .string j] w fun e w' => ∃ nb, e = .returned (.iface 45 (.pointer (some ⟨nb, 0, none⟩))) ∧ Tok w' nb r j d ∧ Below w.heap.size w w' := by
  have hb0 : Below w.heap.size w (w.alloc (.cells #[.pointer none] 32)) := (Below.refl _ w).alloc (Nat.le_refl _) _
  have hbl : b < w.heap.size := (Array.getElem?_eq_some_iff.1 hb).1
  go_enter Tryd.func9, Tryd.ntmps9
  go_wp2_with fail
  refine (hit b w.heap.size (.pointer none) _ (hg.later hb0 hg.lt) (heap_alloc_new w _)).mono ?_
  rintro e w1 ⟨rfl, ht, hgr⟩
  have hB1 : Below w.heap.size w w1 := hb0.grown hgr hb0.size (fun k e => by cases e; exact Nat.le_refl _)
  have hbb := (hB1.block b hbl).trans hb
  have c0 := cell_at ht (o := 0) (v := .pointer (some ⟨b, 0, none⟩)) rfl
  have c1 := cell_at hbb (o := 0) (v := .string r) rfl
  have c2 := cell_at hbb (o := 1) (v := .string d) rfl
  go_wp2
  go_region
  go_wp2
  go_ret
  have hb2 := hB1.alloc hB1.size (.cells #[.string code, .string r, .string j, .string d] 48)
  exact ⟨w1.heap.size, rfl, heap_alloc_new w1 (.cells #[.string code, .string r, .string j, .string d] 48), hb2.os, hb2.tape, hb2.output, hb2.size, hb2.block⟩

set_option maxRecDepth 100000 in
set_option maxHeartbeats 4000000 in
theorem clientRefused_miss (b : Nat) (j : ByteArray) (w : World) (hg : ErrType w) :
    Calls Tryd.prog 9 #[.iface 45 (.pointer (some ⟨b, 0, none⟩)), .string j] w fun e w' => e = .returned (.iface 45 (.pointer (some ⟨b, 0, none⟩))) ∧ Below w.heap.size w w' := by
  have hb0 : Below w.heap.size w (w.alloc (.cells #[.pointer none] 32)) := (Below.refl _ w).alloc (Nat.le_refl _) _
  go_enter Tryd.func9, Tryd.ntmps9
  go_wp2_with fail
  refine (miss b w.heap.size _ (hg.later hb0 hg.lt)).mono ?_
  rintro e w1 ⟨rfl, hgr⟩
  have hB1 : Below w.heap.size w w1 := hb0.grown hgr hb0.size (fun k e => by cases e)
  go_wp2
  go_ret
  exact ⟨rfl, hB1⟩

theorem same45 (a : Addr) (w : World) : (binOp .eql 30 (.iface 45 (.pointer (some a))) (.iface 45 (.pointer (some a)))).run Tryd.prog w = .ok (.bool true) w := by
  obtain ⟨i, hi⟩ : ∃ i, Tryd.prog.info? 45 = some i := Option.isSome_iff_exists.1 (by kernel_rfl)
  obtain ⟨k, hk⟩ : ∃ i, Tryd.prog.info? 48 = some i := Option.isSome_iff_exists.1 (by kernel_rfl)
  have hc : (Tryd.prog.info? 45).map (·.comparable) = some true := by kernel_rfl
  rw [hi] at hc
  exact run_eql_iface_ptr_same w a Tryd.underlying30 Tryd.underlying45 hi (by simpa using hc) hk
theorem token45 (v : Value) (w : World) : (Instr.typeAssert (.iface 45 v) 30 45 true).run Tryd.prog w = .ok (.tuple #[v, .bool true]) w := by kernel_rfl

set_option maxRecDepth 100000 in
set_option maxHeartbeats 4000000 in
theorem readOut (b : Nat) (r j d : ByteArray) (w : World) (h : Tok w b r j d) :
    Calls Tryd.prog 10 #[.iface 45 (.pointer (some ⟨b, 0, none⟩)), .iface 45 (.pointer (some ⟨b, 0, none⟩))] w fun e w' => e = .returned (.tuple #[.bool false, .bool true, .bool true, .string code, .string r, .string j, .string d]) ∧ ∃ k, w' = w.drewN k := by
  have c0 := cell_at h (o := 0) (v := .string code) rfl
  have c1 := cell_at h (o := 1) (v := .string r) rfl
  have c2 := cell_at h (o := 2) (v := .string j) rfl
  have c3 := cell_at h (o := 3) (v := .string d) rfl
  have e1 := same45
  have e2 := token45
  generalize code = cd at c0 ⊢
  clear h
  go_enter Tryd.func10, Tryd.ntmps10
  go_wp2
  go_quiet (fail)
  go_wp2
  exact bodyPost_ret (v := .tuple #[.bool false, .bool true, .bool true, .string cd, .string r, .string j, .string d]) (by simp [results, Tryd.results10, go_sem]) rfl ⟨rfl, nq, rfl⟩

theorem below_drewN {B : Nat} {a w : World} (h : Below B a w) (k : Nat) : Below B a (w.drewN k) := ⟨h.os, h.tape, h.output, h.size, h.block⟩

set_option maxRecDepth 100000 in
set_option maxHeartbeats 4000000 in
theorem twice (r d j1 j2 : ByteArray) (w : World) (hg : ErrType w) :
    Calls Tryd.prog 6 #[.string r, .string d, .string j1, .string j2] w fun e w' => e = .returned (.tuple #[.bool false, .bool true, .bool true, .string code, .string r, .string j1, .string d]) ∧ Below w.heap.size w w' := by
  have hb0 : Below w.heap.size w (w.alloc (.cells #[.string r, .string d] 35)) := (Below.refl _ w).alloc (Nat.le_refl _) _
  go_enter Tryd.func6, Tryd.ntmps6
  go_wp2_with fail
  refine (clientRefused_hit w.heap.size r d j1 _ (hg.later hb0 hg.lt) (heap_alloc_new w _)).mono ?_
  rintro e w1 ⟨nb, rfl, hT, hb1⟩
  have hB1 : Below w.heap.size w w1 := hb0.trans (hb1.mono hb0.size)
  go_wp2_with fail
  refine (clientRefused_miss nb j2 w1 (hg.later hB1 hg.lt)).mono ?_
  rintro e w2 ⟨rfl, hb2⟩
  have hB2 : Below w.heap.size w w2 := hB1.trans (hb2.mono hB1.size)
  have hT2 : Tok w2 nb r j1 d := (hb2.block nb (Array.getElem?_eq_some_iff.1 hT).1).trans hT
  go_wp2_with fail
  refine (readOut nb r j1 d w2 hT2).mono ?_
  rintro e w3 ⟨rfl, k, rfl⟩
  go_wp2
  exact bodyPost_ret (v := .tuple #[.bool false, .bool true, .bool true, .string code, .string r, .string j1, .string d]) (by simp [results, Tryd.results6, go_sem]) rfl ⟨rfl, below_drewN hB2 k⟩

set_option maxHeartbeats 1000000 in
theorem zzBytes (r d j1 j2 : ByteArray) (h1 : r.size ≤ maxLen) (h2 : d.size ≤ maxLen) (h3 : j1.size ≤ maxLen) (h4 : j2.size ≤ maxLen) (w : World) :
    Calls Tryd.prog 5 #[.string r, .string d, .string j1, .string j2] w fun e w' => (∃ b, e = .returned (.bool b)) ∧ w = w' := by
  unfold maxLen at h1 h2 h3 h4
  go_enter Tryd.func5, Tryd.ntmps5
  go_wp2
  all_goals (go_ret; exact ⟨⟨_, rfl⟩, rfl⟩)

end Go.Proofs.Qxb6612531aDoor.refused
