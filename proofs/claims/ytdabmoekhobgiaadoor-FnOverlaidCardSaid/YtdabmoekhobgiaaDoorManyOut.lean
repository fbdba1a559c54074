/-
  laws.FnManyRanges returns true on every input outside the law's conditions. Conditions: none of memory.
-/
import Derived.Test.YtdabmoekhobgiaaDoorMem
namespace Go.Proofs.YtdabmoekhobgiaaDoor
open Go.RowKit

set_option maxHeartbeats 8000000 in
/-- The ways on which the law says nothing. -/
theorem many_out (lo gap n i : Int) (w : World) (h : lo < 0 ∨ (0 ≤ lo ∧ gap < 2) ∨ (0 ≤ lo ∧ 2 ≤ gap ∧ 1114111 < gap) ∨ (0 ≤ lo ∧ 2 ≤ gap ∧ gap ≤ 1114111 ∧ n < 1) ∨ (0 ≤ lo ∧ 2 ≤ gap ∧ gap ≤ 1114111 ∧ 1 ≤ n ∧ 65536 < n) ∨
      (0 ≤ lo ∧ lo ≤ 2147483647 ∧ 2 ≤ gap ∧ gap ≤ 1114111 ∧ 1 ≤ n ∧ n ≤ 65536 ∧ 0 ≤ gap * n ∧ gap * n ≤ 73014378496 ∧ 1114112 < lo + gap * n) ∨
      (0 ≤ lo ∧ lo ≤ 2147483647 ∧ 2 ≤ gap ∧ gap ≤ 1114111 ∧ 1 ≤ n ∧ n ≤ 65536 ∧ 0 ≤ gap * n ∧ lo + gap * n ≤ 1114112 ∧ i < 0) ∨ (0 ≤ lo ∧ lo ≤ 2147483647 ∧ 2 ≤ gap ∧ gap ≤ 1114111 ∧ 1 ≤ n ∧ n ≤ 65536 ∧ 0 ≤ gap * n ∧ lo + gap * n ≤ 1114112 ∧ 0 ≤ i ∧ n ≤ i)) :
    Calls Tryd.prog 7 #[.int .i32 lo, .int .i64 gap, .int .i64 n, .int .i64 i] w fun e w' => e = .returned (.bool true) ∧ Below w.heap.size w w' := by
  rcases h with h | ⟨h1, h2⟩ | ⟨h1, h2, h3⟩ | ⟨h1, h2, h3, h4⟩ | ⟨h1, h2, h3, h4, h5⟩ | ⟨h1, h2, h3, h4, h5, h6, h7, h8, h9⟩ | ⟨h1, h2, h3, h4, h5, h6, h7, h8, h9⟩ | ⟨h1, h2, h3, h4, h5, h6, h7, h8, h9, h10⟩
  all_goals
    go_enter Tryd.func7, Tryd.ntmps7
    go_wp2
    go_ret
    exact ⟨rfl, Below.refl _ _⟩

end Go.Proofs.YtdabmoekhobgiaaDoor
