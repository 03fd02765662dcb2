import Derived.Test.Qxb6612531aDoorItems
namespace Go.Proofs.Qxb6612531aDoor.itemsLaw
open Go.RowKit read

set_option maxHeartbeats 1000000 in
/-- the law's own early answers -/
theorem early (a : Option Addr) (len cap : Nat) (p dp e : Int) (hl : len ≤ 9223372036854775807) (w : World)
    (h : 1048576 < (len : Int) ∨ ((len : Int) ≤ 1048576 ∧ (p < 0 ∨ (0 ≤ p ∧ (len : Int) < p) ∨ (0 ≤ p ∧ p ≤ len ∧ (dp < 0 ∨ (0 ≤ dp ∧ 10000 < dp)))))) :
    Calls Tryd.prog 4 #[.slice a len cap, .int .i64 p, .int .i64 dp, .int .u8 e] w fun r w' => r = .returned (.bool true) ∧ Below w.heap.size w w' := by
  rcases h with h1 | ⟨h1, h2 | ⟨h2, h3⟩ | ⟨h2, h3, h4 | ⟨h4, h5⟩⟩⟩
  all_goals
    go_enter Tryd.func4, Tryd.ntmps4
    go_wp2_with fail
    refine (zzBytes _ len cap p dp e hl w).mono ?_
    rintro r w' ⟨⟨b, rfl⟩, rfl⟩
    cases b <;> go_wp2 <;> (go_ret; exact ⟨rfl, Below.refl _ _⟩)

/-- a row of bytes as the reading gives it -/
def IsRow (w : World) (a : Option Addr) (len cap : Nat) (zs : List Int) : Prop :=
  (a = none ∧ len = 0 ∧ cap = 0 ∧ zs = []) ∨
  (∃ x, a = some x ∧ len ≤ cap ∧ cap ≤ maxLen ∧ zs.length = cap ∧ (∀ i, i < cap → w.cell? (x.add i) = some (.int .u8 (zs.getD i 0))))

theorem walk (a : Option Addr) (len cap : Nat) (zs : List Int) (p dp e : Int) (ev : Addr) (w : World) (hr : IsRow w a len cap zs) (he : w.cell? ⟨0, 0, none⟩ = some (err ev)) :
    Calls Tryd.prog 4 #[.slice a len cap, .int .i64 p, .int .i64 dp, .int .u8 e] w fun r w' => r = .returned (.bool true) ∧ Below w.heap.size w w' := by
  have hl : len ≤ 9223372036854775807 := by
    rcases hr with ⟨_, rfl, _, _⟩ | ⟨x, _, h1, h2, _⟩
    · omega
    · unfold maxLen at h2; omega
  by_cases hx : 1048576 < (len : Int) ∨ ((len : Int) ≤ 1048576 ∧ (p < 0 ∨ (0 ≤ p ∧ (len : Int) < p) ∨ (0 ≤ p ∧ p ≤ len ∧ (dp < 0 ∨ (0 ≤ dp ∧ 10000 < dp)))))
  · exact early a len cap p dp e hl w hx
  have hlen : len ≤ 1048576 := by omega
  obtain ⟨q, rfl⟩ : ∃ q : Nat, p = (q : Nat) := ⟨p.toNat, by omega⟩
  have hq : q ≤ len := by omega
  have hd0 : 0 ≤ dp := by omega
  have hd1 : dp ≤ 10000 := by omega
  rcases hr with ⟨rfl, rfl, rfl, rfl⟩ | ⟨x, rfl, h1, h2, h3, hcell⟩
  · exact law_nil q dp e ev hq hd0 hd1 w he
  · have hlt : (zs.take len).length = len := by rw [List.length_take]; omega
    refine law_some x len cap q dp e (zs.take len) ev hlt hlen hq hd0 hd1 w ?_ he
    intro i hi
    rw [hcell i (by omega)]
    congr 2
    simp only [List.getD, List.getElem?_take_of_lt (show i < len by omega)]

end Go.Proofs.Qxb6612531aDoor.itemsLaw
