/-
  laws.FnBlocksTurn returns true on every input outside the law's conditions. Conditions: none of memory.
-/
import Derived.Test.YtdabmoekhobgiaaDoorBlocksA
namespace Go.Proofs.YtdabmoekhobgiaaDoor
open Go.RowKit

set_option maxHeartbeats 4000000 in
/-- The ways on which the law says nothing. -/
theorem blocks_out (lo n m r : Int) (A : Option Addr) (len cap : Nat) (w : World)
    (h : lo < 0 ∨ (0 ≤ lo ∧ n < 1) ∨ (0 ≤ lo ∧ 1 ≤ n ∧ m < 1) ∨ (0 ≤ lo ∧ 1 ≤ n ∧ 1 ≤ m ∧ 65536 < n) ∨ (0 ≤ lo ∧ 1 ≤ n ∧ 1 ≤ m ∧ n ≤ 65536 ∧ 65536 < m) ∨
      (0 ≤ lo ∧ 1 ≤ n ∧ 1 ≤ m ∧ n ≤ 65536 ∧ m ≤ 65536 ∧ 65536 < n + m) ∨ (0 ≤ lo ∧ 1 ≤ n ∧ 1 ≤ m ∧ n ≤ 65536 ∧ m ≤ 65536 ∧ n + m ≤ 65536 ∧ lo ≤ 2147483647 ∧ 1114112 < lo + (n + m)) ∨
      (0 ≤ lo ∧ 1 ≤ n ∧ 1 ≤ m ∧ n ≤ 65536 ∧ m ≤ 65536 ∧ n + m ≤ 65536 ∧ lo + (n + m) ≤ 1114112 ∧ r < lo) ∨ (0 ≤ lo ∧ 1 ≤ n ∧ 1 ≤ m ∧ n ≤ 65536 ∧ m ≤ 65536 ∧ n + m ≤ 65536 ∧ lo + (n + m) ≤ 1114112 ∧ lo ≤ r ∧ r ≤ 2147483647 ∧ lo + (n + m) ≤ r)) :
    Calls Tryd.prog 3 #[.int .i32 lo, .int .i64 n, .int .i64 m, .slice A len cap, .int .i32 r] w fun e w' => e = .returned (.bool true) ∧ Below w.heap.size w w' := by
  rcases h with h | ⟨h1, h2⟩ | ⟨h1, h2, h3⟩ | ⟨h1, h2, h3, h4⟩ | ⟨h1, h2, h3, h4, h5⟩ | ⟨h1, h2, h3, h4, h5, h6⟩ | ⟨h1, h2, h3, h4, h5, h6, h7, h8⟩ | ⟨h1, h2, h3, h4, h5, h6, h7, h8⟩ | ⟨h1, h2, h3, h4, h5, h6, h7, h8, h9, h10⟩
  all_goals
    go_enter Tryd.func3, Tryd.ntmps3
    go_wp2
    go_ret
    exact ⟨rfl, Below.refl _ _⟩

end Go.Proofs.YtdabmoekhobgiaaDoor
