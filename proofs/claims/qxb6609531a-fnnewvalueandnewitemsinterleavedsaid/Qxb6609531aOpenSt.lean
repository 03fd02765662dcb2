import Derived.Test.Qxb6609531aStepArgs
import Derived.ProofKit
import Derived.OpenShut
import Derived.ShutString
import Derived.ChangeOld
import Derived.Deep.Slices
namespace Go.Proofs.Qxb6609531a.openSt
open Go.ChangeShapes Go.WideShapes Go.ChangeAt Go.RowKit Go.Deep
open stepArgs

section
variable {H : Type} {enc : TypeId × Value → H} {w : World} {base : Nat} {spare : Nat → Bool} {held : Bool}

theorem open_step {n : Nat} {cs : List Value} {x : DataW H × List MemPlace} (h : DataW.trod enc Try.prog w base spare held n 49 cs = some x) (hl : cs.length = 5) :
    ∃ (t : Bool) (a : Int) (k : ByteArray) (i b : Int), cs = [.bool t, .int .i64 a, .string k, .int .i64 i, .int .i64 b] ∧ k.size ≤ maxLen := by
  obtain ⟨xs, m, hm, hx, _, hxl, hf⟩ := DataW.trod_struct Try.underlying49 h
  have c3 : Try.prog.cellsOf 3 = 1 := by kernel_rfl
  have c4 : Try.prog.cellsOf 4 = 1 := by kernel_rfl
  have c9 : Try.prog.cellsOf 9 = 1 := by kernel_rfl
  match cs, hl with
  | [v0, v1, v2, v3, v4], _ =>
    match xs, hxl with
    | [y0, y1, y2, y3, y4], _ =>
      have g0 := hf 0 _ rfl
      have g1 := hf 1 _ rfl
      have g2 := hf 2 _ rfl
      have g3 := hf 3 _ rfl
      have g4 := hf 4 _ rfl
      simp [c3, c4, c9] at g0 g1 g2 g3 g4
      obtain ⟨t, e0, _⟩ := DataW.trod_bool Try.underlying4 g0
      obtain ⟨a, e1, _, _⟩ := DataW.trod_int Try.underlying3 g1
      obtain ⟨k, e2, _, hk⟩ := DataW.trod_string Try.underlying9 g2
      obtain ⟨i, e3, _, _⟩ := DataW.trod_int Try.underlying3 g3
      obtain ⟨b, e4, _, _⟩ := DataW.trod_int Try.underlying3 g4
      simp at e0 e1 e2 e3 e4
      subst e0 e1 e2 e3 e4
      exact ⟨t, a, k, i, b, rfl, hk⟩

theorem open_steps {fuel : Nat} {a : Option Addr} {len cap : Nat} {x : DataW H × List MemPlace} (h : DataW.trod enc Try.prog w base spare held fuel 44 [.slice a len cap] = some x) : ∃ Tf Hf If Af Kf, IsSt w a len Tf Hf If Af Kf := by
  rcases open_slice Try.underlying44 h with ⟨h0, _⟩ | ⟨ad, len', cap', m, n, D, Pl, hcs, _, hl, hm, hmm, _, hx⟩
  · simp at h0
    obtain ⟨rfl, rfl, rfl⟩ := h0
    exact ⟨fun _ => false, fun _ => 0, fun _ => 0, fun _ => 0, fun _ => ⟨#[]⟩, by omega, fun h => by omega⟩
  · simp at hcs
    obtain ⟨rfl, rfl, rfl⟩ := hcs
    have hlm : len ≤ m := by rw [hmm]; split <;> omega
    have c49 : Try.prog.cellsOf 49 = 5 := by kernel_rfl
    rw [c49] at hx
    have each : ∀ i, i < len → ∃ q : Bool × Int × ByteArray × Int × Int, w.cell? (ad.add (i * 5)) = some (.bool q.1) ∧ w.cell? (ad.add (i * 5 + 1)) = some (.int .i64 q.2.1) ∧ w.cell? (ad.add (i * 5 + 2)) = some (.string q.2.2.1) ∧ w.cell? (ad.add (i * 5 + 3)) = some (.int .i64 q.2.2.2.1) ∧ w.cell? (ad.add (i * 5 + 4)) = some (.int .i64 q.2.2.2.2) ∧ q.2.2.1.size ≤ maxLen := by
      intro i hi
      obtain ⟨cs', h1, h2⟩ := hx i (by omega)
      obtain ⟨_, hlen, hcell⟩ := World.cells?_some h1
      obtain ⟨t, a, k, ix, b, rfl, hk⟩ := open_step h2 hlen
      have e0 := hcell 0 (by omega)
      have e1 := hcell 1 (by omega)
      have e2 := hcell 2 (by omega)
      have e3 := hcell 3 (by omega)
      have e4 := hcell 4 (by omega)
      rw [add_add] at e0 e1 e2 e3 e4
      exact ⟨(t, a, k, ix, b), by simpa using e0, by simpa using e1, by simpa using e2, by simpa using e3, by simpa using e4, hk⟩
    obtain ⟨q, hq⟩ := choose_lt each
    refine ⟨fun i => (q i).1, fun i => (q i).2.1, fun i => (q i).2.2.2.1, fun i => (q i).2.2.2.2, fun i => (q i).2.2.1, by unfold maxLen at hm; omega, fun hp => ?_⟩
    obtain ⟨b, off, spot⟩ := ad
    have hspot : spot = none := by simpa [Addr.add] using World.cell?_spot (hq 0 hp).1
    subst hspot
    refine ⟨b, off, rfl, fun i hi => ?_⟩
    obtain ⟨h0, h1, h2, h3, h4, h5⟩ := hq i hi
    rw [add_plain] at h0 h1 h2 h3 h4
    exact ⟨h0, by simpa [Nat.add_assoc] using h1, by simpa [Nat.add_assoc] using h2, by simpa [Nat.add_assoc] using h3, by simpa [Nat.add_assoc] using h4, h5⟩
end
end Go.Proofs.Qxb6609531a.openSt
