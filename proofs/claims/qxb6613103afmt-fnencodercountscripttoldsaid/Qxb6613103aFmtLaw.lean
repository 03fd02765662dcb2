import Derived.Test.Qxb6613103aFmtEnc
import Derived.Test.Qxb6613103aFmtBytes
namespace Go.Proofs.Qxb6613103aFmt.law
open Go.Extern.Stop Go.Stop Go.Extern Go.RowKit
open enc bytes

/-- what is known of a slice of integers that came in (the guide's skeleton's own word) -/
def IsRow (k : IntKind) (w : World) (a : Option Addr) (len cap : Nat) (zs : List Int) : Prop :=
  (a = none ∧ len = 0 ∧ cap = 0 ∧ zs = []) ∨
  ∃ x, a = some x ∧ len ≤ cap ∧ cap ≤ maxLen ∧ zs.length = cap ∧ (∀ i, i < zs.length → w.cell? (x.add i) = some (.int k (zs.getD i 0))) ∧ ∀ n ∈ zs, (Lit.int k n).wf = true

theorem enc_drewN {B be : Nat} {w : World} {sv ev : Value} {n : Nat} {xs : List Value} (h : Enc B be w sv ev n xs) (k : Nat) : Enc B be (w.drewN k) sv ev n xs := ⟨h.blk, h.own, h.ne, h.le⟩

theorem ret_bool {b : Bool} (h : b = true) : Ending.returned (.bool b) = .returned (.bool true) := by rw [h]

theorem broke_true {n m : Int} (h : broke n m = true) : (m != -1) = true ∧ m < n := by
  simpa [broke] using h
theorem broke_false {n m : Int} (h : broke n m = false) : (m != -1) = false ∨ ((m != -1) = true ∧ ¬ m < n) := by
  by_cases hm : (m != -1) = true
  · exact .inr ⟨hm, by simpa [broke, hm] using h⟩
  · exact .inl (by simpa using hm)

/-- the bytes of the buffer that the encoder ends with -/
theorem lies_own {w : World} {B g n ln cap : Nat} {xs : List Value} (h : w.ownsRow B 5 1 (.slice (some ⟨g, 0, none⟩) ln cap) n xs) (j : Nat) (u : Value) (hj : xs[j]? = some u) : w.cell? ⟨g, j, none⟩ = some u := by
  have := h.cells (g := g) rfl j u hj
  have e : (⟨g, 0, none⟩ : Addr).add j = ⟨g, j, none⟩ := by unfold Addr.add; split <;> simp_all
  rwa [e] at this

theorem be4_sum (v : Int) : v / 16777216 * 16777216 + v / 65536 % 256 * 65536 + v / 256 % 256 * 256 + v % 256 = v := by omega

theorem word_be (g k ln cap : Nat) (i v : Int) (hi : i = (k : Nat)) (hk : k + 4 ≤ ln) (hln : ln ≤ 1000000) (h0 : 0 ≤ v) (h1 : v < 4294967296) (w : World)
    (hcell : ∀ (j : Nat) (u : Value), (be4 v)[j]? = some u → w.cell? ⟨g, k + j, none⟩ = some u) :
    Calls Tryf.prog 10 #[.slice (some ⟨g, 0, none⟩) ln cap, .int .i64 i] w fun e w' => e = .returned (.int .u32 v) ∧ ∃ k, w' = w.drewN k := by
  subst hi
  refine (word g k ln cap (v / 16777216) (v / 65536 % 256) (v / 256 % 256) (v % 256) hk hln (by omega) (by omega) (by omega) (by omega) w (hcell 0 _ rfl) (hcell 1 _ rfl) (hcell 2 _ rfl) (hcell 3 _ rfl)).mono ?_
  rintro e w' ⟨rfl, h⟩
  exact ⟨by rw [be4_sum], h⟩

set_option maxHeartbeats 1600000 in
/-- the tail: from the copy of the prefix on -/
theorem tail (F : Interp) (a0 c0 : Option Addr) (len cap capc : Nat) (zs : List Int) (n1 m1 n2 m2 : Int) (hl : zs.length = len) (hlen : len ≤ 65536) (w : World) (hF : F.answers w.tape)
    (hz : ∀ x, a0 = some x → Lies w x zs) (hnone : a0 = none → len = 0)
    (hclone : Calls Tryf.prog 5 #[.slice a0 len cap] w fun e w' => e = .returned (.slice c0 len capc) ∧ w'.ownsRow w.heap.size 5 1 (.slice c0 len capc) len (vals zs) ∧ Below w.heap.size w w') :
    Calls Tryf.prog 3 #[.slice a0 len cap, .int .i64 n1, .int .i64 m1, .int .i64 n2, .int .i64 m2] w fun e w' => e = .returned (.bool true) ∧ Below w.heap.size w w' := by
  have hlc : (len : Int) ≤ 65536 := by omega
  go_enter Tryf.func3, Tryf.ntmps3
  go_wp2_with fail
  refine (zzBytes a0 len cap n1 m1 n2 m2 (by omega) _).mono ?_
  rintro e w' ⟨⟨b, rfl⟩, rfl⟩
  cases b
  · go_wp2
    go_ret
    exact ⟨rfl, Below.refl _ _⟩
  go_wp2_with fail
  refine hclone.mono ?_
  rintro e w1 ⟨rfl, hown1, hb1⟩
  go_wp2_with fail
  refine (newEncoder c0 len capc w1).mono ?_
  rintro e w2 ⟨rfl, rfl⟩
  have hE0 : Enc w'.heap.size w1.heap.size (w1.alloc (.cells #[.slice c0 len capc, .nilIface] 36)) (.slice c0 len capc) .nilIface len (vals zs) :=
    ⟨heap_alloc_new _ _, hown1.alloc _, fun e => by have := (hown1.lt _ e).2; omega, hb1.size⟩
  have hb2 : Below w'.heap.size w' (w1.alloc (.cells #[.slice c0 len capc, .nilIface] 36)) := hb1.alloc hb1.size _
  have hF2 : F.answers (w1.alloc (.cells #[.slice c0 len capc, .nilIface] 36)).tape := by rw [hb2.tape]; exact hF
  go_wp2_with fail
  refine (zzCount F w'.heap.size w1.heap.size len _ n1 m1 _ _ (vals zs) _ hF2 hE0 (by omega) false (.inl ⟨rfl, rfl⟩)).mono ?_
  rintro e w3 ⟨sv1, ev1, rfl, hE1, hev1, hb3⟩
  have hF3 : F.answers w3.tape := by rw [hb3.tape]; exact hF2
  go_wp2_with fail
  refine (zzCount F w'.heap.size w1.heap.size (len + 4) _ n2 m2 _ _ _ _ hF3 hE1 (by omega) _ hev1).mono ?_
  rintro e w4 ⟨sv2, ev2, rfl, hE2, hev2, hb4⟩
  obtain ⟨g, cap2, rfl⟩ : ∃ g cap2, sv2 = .slice (some ⟨g, 0, none⟩) (len + 8) cap2 := by
    rcases hE2.own.2 with ⟨_, h⟩ | ⟨g, cap2, _, h, _⟩
    · omega
    · exact ⟨g, cap2, h⟩
  have hcap : len + 8 ≤ cap2 := by
    rcases hE2.own.2 with ⟨h, _⟩ | ⟨g', cap', _, h, _, _, h2, _⟩
    · cases h
    · cases h; exact h2
  have hbel : Below w'.heap.size w' w4 := (hb2.trans hb3).trans hb4
  go_wp2_with fail
  refine (zzBuf _ _ _ _ _ _ _ _ _ hE2).mono ?_
  rintro e w5 ⟨rfl, rfl⟩
  have hown := hE2.own
  have hy : Lies w5 ⟨g, 0, none⟩ zs := by
    intro i hi
    have e : (⟨g, 0, none⟩ : Addr).add i = ⟨g, i, none⟩ := by unfold Addr.add; split <;> simp_all
    rw [e]
    refine lies_own hown i _ ?_
    rw [List.append_assoc, List.getElem?_append_left (by simpa [vals] using hi)]
    simp [vals, List.getElem?_eq_getElem hi, List.getD]
  have hz5 : ∀ x, a0 = some x → Lies w5 x zs := fun x hx i hi => cell_later hbel (hz x hx i hi)
  have hcell : ∀ (j : Nat) (u : Value), (be4 (n1 % 4294967296) ++ be4 (n2 % 4294967296))[j]? = some u → w5.cell? ⟨g, len + j, none⟩ = some u := by
    intro j u hj
    refine lies_own hown (len + j) u ?_
    have hlv : (vals zs).length = len := by simp [vals, hl]
    rw [List.append_assoc, List.getElem?_append_right (by omega), hlv, show len + j - len = j from by omega]
    exact hj
  go_wp2_with fail
  refine (same_row ⟨g, 0, none⟩ a0 len cap2 cap zs hl hlen _ hy hz5 hnone).mono ?_
  rintro e w6 ⟨rfl, k6, rfl⟩
  go_wp2_with fail
  refine (word_be g len (len + 8) cap2 _ (n1 % 4294967296) rfl (by omega) (by omega) (by omega) (by omega) (w5.drewN k6) (fun j u hj => hcell j u (by rw [List.getElem?_append_left (List.getElem?_eq_some_iff.1 hj).1]; exact hj))).mono ?_
  rintro e w7 ⟨rfl, k7, rfl⟩
  go_wp2_with fail
  refine (word_be g (len + 4) (len + 8) cap2 ((len : Int) + 4) (n2 % 4294967296) (by omega) (by omega) (by omega) (by omega) (by omega) (w5.drewN (k6 + k7)) (fun j u hj => by rw [Nat.add_assoc]; exact hcell (4 + j) u (by rw [List.getElem?_append_right (by simp [be4])]; simpa [be4, show 4 + j - 4 = j from by omega] using hj))).mono ?_
  rintro e w8 ⟨rfl, k8, rfl⟩
  rw [Bool.false_or] at hev2
  have fin : ∀ k, Below w'.heap.size w' (w5.drewN k) := fun k => ⟨hbel.os, hbel.tape, hbel.output, hbel.size, hbel.block⟩
  clear hclone hz hnone hown1 hb1 hE0 hb2 hF2 hE1 hev1 hb3 hF3 hb4 hown hy hz5 hcell
  rcases hev2 with ⟨hb, rfl⟩ | ⟨hb, a, rfl⟩
  · obtain ⟨hb1, hb2⟩ : broke n1 m1 = false ∧ broke n2 m2 = false := by simpa using hb
    clear hb
    rcases broke_false hb1 with hm1 | ⟨hm1, hn1⟩ <;> rcases broke_false hb2 with hm2 | ⟨hm2, hn2⟩ <;> clear hb1 hb2
    all_goals
      go_wp2_with fail
      refine (zzErr _ _ _ _ _ _ _ (enc_drewN hE2 (k6 + k7 + k8)) false (.inl ⟨rfl, rfl⟩)).mono ?_
      rintro e w9 ⟨rfl, rfl⟩
      go_wp2
      go_ret
      exact ⟨ret_bool (by first | rfl | (simp; omega)), fin _⟩
  · by_cases hb1 : broke n1 m1 = true
    · obtain ⟨hm1, hn1⟩ := broke_true hb1
      clear hb hb1
      go_wp2_with fail
      refine (zzErr _ _ _ _ _ _ _ (enc_drewN hE2 (k6 + k7 + k8)) true (.inr ⟨rfl, a, rfl⟩)).mono ?_
      rintro e w9 ⟨rfl, rfl⟩
      go_wp2
      go_ret
      exact ⟨ret_bool (by first | rfl | (simp; omega)), fin _⟩
    · have hb1' : broke n1 m1 = false := by simpa using hb1
      obtain ⟨hm2, hn2⟩ := broke_true (show broke n2 m2 = true by simpa [hb1'] using hb)
      clear hb hb1
      rcases broke_false hb1' with hm1 | ⟨hm1, hn1⟩ <;> clear hb1'
      all_goals
        go_wp2_with fail
        refine (zzErr _ _ _ _ _ _ _ (enc_drewN hE2 (k6 + k7 + k8)) true (.inr ⟨rfl, a, rfl⟩)).mono ?_
        rintro e w9 ⟨rfl, rfl⟩
        go_wp2
        go_ret
        exact ⟨ret_bool (by first | rfl | (simp; omega)), fin _⟩

set_option maxHeartbeats 400000 in
theorem long (a0 : Option Addr) (len cap : Nat) (n1 m1 n2 m2 : Int) (hl : len ≤ 9223372036854775807) (hlen : 65536 < len) (w : World) :
    Calls Tryf.prog 3 #[.slice a0 len cap, .int .i64 n1, .int .i64 m1, .int .i64 n2, .int .i64 m2] w fun e w' => e = .returned (.bool true) ∧ Below w.heap.size w w' := by
  have hlc : (65536 : Int) < len := by omega
  go_enter Tryf.func3, Tryf.ntmps3
  go_wp2_with fail
  refine (zzBytes a0 len cap n1 m1 n2 m2 hl _).mono ?_
  rintro e w' ⟨⟨b, rfl⟩, rfl⟩
  cases b <;> go_wp2 <;> (go_ret; exact ⟨rfl, Below.refl _ _⟩)

theorem walk (F : Interp) (a0 : Option Addr) (len0 cap0 : Nat) (z0 : List Int) (n1 m1 n2 m2 : Int) (w : World) (hF : F.answers w.tape) (w0 : IsRow .u8 w a0 len0 cap0 z0) :
    Calls Tryf.prog 3 #[.slice a0 len0 cap0, .int .i64 n1, .int .i64 m1, .int .i64 n2, .int .i64 m2] w fun e w' => e = .returned (.bool true) ∧ Below w.heap.size w w' := by
  rcases w0 with ⟨rfl, rfl, rfl, rfl⟩ | ⟨x, rfl, hlc, hcm, hzl, hcell, _⟩
  · refine tail F none none 0 0 0 [] n1 m1 n2 m2 rfl (by omega) w hF (fun x hx => by cases hx) (fun _ => rfl) ?_
    refine (clone_nil w).mono ?_
    rintro e w' ⟨rfl, rfl⟩
    exact ⟨rfl, World.ownsRow_nil _ _ _ _, Below.refl _ _⟩
  · unfold maxLen at hcm
    by_cases hlen : 65536 < len0
    · exact long _ _ _ _ _ _ _ (by omega) hlen w
    · have hlt : (z0.take len0).length = len0 := by rw [List.length_take]; omega
      have hz : Lies w x (z0.take len0) := by
        intro i hi
        have h := hcell i (by omega)
        rw [h]
        congr 2
        simp only [List.getD, List.getElem?_take_of_lt (show i < len0 by omega)]
      refine tail F (some x) (some ⟨w.heap.size, 0, none⟩) len0 cap0 len0 (z0.take len0) n1 m1 n2 m2 hlt (by omega) w hF (fun y hy => by cases hy; exact hz) (fun h => by cases h) ?_
      refine (clone_some x len0 cap0 (z0.take len0) hlt (by omega) w hz).mono ?_
      rintro e w' ⟨rfl, hb, _, hbel⟩
      have hlv : (vals (z0.take len0)).length = len0 := by unfold vals; rw [List.length_map, hlt]
      refine ⟨rfl, ⟨by rw [hlv]; omega, .inr ⟨w.heap.size, len0, _, rfl, Nat.le_refl _, hb, Nat.le_refl _, by unfold maxLen; omega, by rw [List.size_toArray, hlv]; omega, ?_⟩⟩, hbel⟩
      show (vals (z0.take len0)).take (len0 * 1) = _
      rw [List.take_of_length_le (by omega)]

end Go.Proofs.Qxb6613103aFmt.law
