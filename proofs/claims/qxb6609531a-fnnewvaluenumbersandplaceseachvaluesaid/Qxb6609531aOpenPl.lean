import Derived.Test.Qxb6609531aPlaceLaw
import Derived.ProofKit
import Derived.OpenShut
import Derived.ShutString
import Derived.ChangeOld
import Derived.Deep.Slices
namespace Go.Proofs.Qxb6609531a.openPl
open Go.ChangeShapes Go.WideShapes Go.ChangeAt Go.RowKit Go.Deep
open placeArgs

section
variable {H : Type} {enc : TypeId × Value → H} {w : World} {base : Nat} {spare : Nat → Bool} {held : Bool}

theorem open_place {n : Nat} {cs : List Value} {x : DataW H × List MemPlace} (h : DataW.trod enc Try.prog w base spare held n 32 cs = some x) (hl : cs.length = 4) :
    ∃ (a : Int) (k : ByteArray) (i b : Int), cs = [.int .i64 a, .string k, .int .i64 i, .int .i64 b] ∧ k.size ≤ maxLen := by
  obtain ⟨xs, m, hm, hx, _, hxl, hf⟩ := DataW.trod_struct Try.underlying32 h
  have c3 : Try.prog.cellsOf 3 = 1 := by kernel_rfl
  have c9 : Try.prog.cellsOf 9 = 1 := by kernel_rfl
  match cs, hl with
  | [v0, v1, v2, v3], _ =>
    match xs, hxl with
    | [y0, y1, y2, y3], _ =>
      have g0 := hf 0 _ rfl
      have g1 := hf 1 _ rfl
      have g2 := hf 2 _ rfl
      have g3 := hf 3 _ rfl
      simp [c3, c9] at g0 g1 g2 g3
      obtain ⟨a, e0, _, _⟩ := DataW.trod_int Try.underlying3 g0
      obtain ⟨k, e1, _, hk⟩ := DataW.trod_string Try.underlying9 g1
      obtain ⟨i, e2, _, _⟩ := DataW.trod_int Try.underlying3 g2
      obtain ⟨b, e3, _, _⟩ := DataW.trod_int Try.underlying3 g3
      simp at e0 e1 e2 e3
      subst e0 e1 e2 e3
      exact ⟨a, k, i, b, rfl, hk⟩

theorem open_places {fuel : Nat} {a : Option Addr} {len cap : Nat} {x : DataW H × List MemPlace} (h : DataW.trod enc Try.prog w base spare held fuel 22 [.slice a len cap] = some x) : ∃ Hf If Af Kf, IsPl w a len Hf If Af Kf := by
  rcases open_slice Try.underlying22 h with ⟨h0, _⟩ | ⟨ad, len', cap', m, n, D, Pl, hcs, _, hl, hm, hmm, _, hx⟩
  · simp at h0
    obtain ⟨rfl, rfl, rfl⟩ := h0
    exact ⟨fun _ => 0, fun _ => 0, fun _ => 0, fun _ => ⟨#[]⟩, by omega, fun h => by omega⟩
  · simp at hcs
    obtain ⟨rfl, rfl, rfl⟩ := hcs
    have hlm : len ≤ m := by rw [hmm]; split <;> omega
    have c32 : Try.prog.cellsOf 32 = 4 := by kernel_rfl
    rw [c32] at hx
    have each : ∀ i, i < len → ∃ q : Int × ByteArray × Int × Int, w.cell? (ad.add (i * 4)) = some (.int .i64 q.1) ∧ w.cell? (ad.add (i * 4 + 1)) = some (.string q.2.1) ∧ w.cell? (ad.add (i * 4 + 2)) = some (.int .i64 q.2.2.1) ∧ w.cell? (ad.add (i * 4 + 3)) = some (.int .i64 q.2.2.2) ∧ q.2.1.size ≤ maxLen := by
      intro i hi
      obtain ⟨cs', h1, h2⟩ := hx i (by omega)
      obtain ⟨_, hlen, hcell⟩ := World.cells?_some h1
      obtain ⟨a, k, ix, b, rfl, hk⟩ := open_place h2 hlen
      have e0 := hcell 0 (by omega)
      have e1 := hcell 1 (by omega)
      have e2 := hcell 2 (by omega)
      have e3 := hcell 3 (by omega)
      rw [add_add] at e0 e1 e2 e3
      exact ⟨(a, k, ix, b), by simpa using e0, by simpa using e1, by simpa using e2, by simpa using e3, hk⟩
    obtain ⟨q, hq⟩ := choose_lt each
    refine ⟨fun i => (q i).1, fun i => (q i).2.2.1, fun i => (q i).2.2.2, fun i => (q i).2.1, by unfold maxLen at hm; omega, fun hp => ?_⟩
    obtain ⟨b, off, spot⟩ := ad
    have hspot : spot = none := by simpa [Addr.add] using World.cell?_spot (hq 0 hp).1
    subst hspot
    refine ⟨b, off, rfl, fun i hi => ?_⟩
    obtain ⟨h0, h1, h2, h3, h4⟩ := hq i hi
    rw [add_plain] at h0 h1 h2 h3
    exact ⟨h0, by simpa [Nat.add_assoc] using h1, by simpa [Nat.add_assoc] using h2, by simpa [Nat.add_assoc] using h3, h4⟩
end
end Go.Proofs.Qxb6609531a.openPl
