import Derived.Test.Qxb6612531aDoorRefused
namespace Go.Proofs.Qxb6612531aDoor.refused
open Go.RowKit read

set_option maxRecDepth 100000 in
set_option maxHeartbeats 4000000 in
theorem walk (r d j1 j2 : ByteArray) (h1 : r.size ≤ maxLen) (h2 : d.size ≤ maxLen) (h3 : j1.size ≤ maxLen) (h4 : j2.size ≤ maxLen) (w : World) (hg : ErrType w) :
    Calls Tryd.prog 3 #[.string r, .string d, .string j1, .string j2] w fun e w' => e = .returned (.bool true) ∧ Below w.heap.size w w' := by
  go_enter Tryd.func3, Tryd.ntmps3
  go_wp2_with fail
  refine (zzBytes r d j1 j2 h1 h2 h3 h4 w).mono ?_
  rintro e w' ⟨⟨b, rfl⟩, rfl⟩
  unfold maxLen at h1 h2 h3 h4
  cases b
  · go_wp2
    go_ret
    exact ⟨rfl, Below.refl _ _⟩
  go_wp2_with (go_at_call 6; refine (twice r d j1 j2 w hg).mono ?_; rintro e w1 ⟨rfl, hb⟩; unfold code)
  all_goals (go_ret; first | exact ⟨rfl, Below.refl _ _⟩ | exact ⟨rfl, hb⟩)

end Go.Proofs.Qxb6612531aDoor.refused
