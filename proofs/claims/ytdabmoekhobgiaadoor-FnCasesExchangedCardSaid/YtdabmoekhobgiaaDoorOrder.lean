/-
  Contract of laws.order: three of the numbers 0, 1, 2. Conditions: none.
-/
import Derived.Test.YtdabmoekhobgiaaDoorAsk
namespace Go.Proofs.YtdabmoekhobgiaaDoor
open Go.RowKit

def IsOrder (w : World) (e : Ending) (w' : World) : Prop := (∃ q0 q1 q2 : Nat, q0 < 3 ∧ q1 < 3 ∧ q2 < 3 ∧ e = .returned (.agg #[.int .i64 q0, .int .i64 q1, .int .i64 q2])) ∧ Below w.heap.size w w'

set_option maxHeartbeats 4000000 in
set_option maxRecDepth 1000000 in
theorem order_any (s : Int) (w : World) : Calls Tryd.prog 23 #[.int .i64 s] w (IsOrder w) := by
  have cP := Lib.hid (fun w => pick_any s 6 (by omega) (by omega) w)
  have h0 : 0 ≤ s % 6 := by omega
  have h6 : s % 6 < 6 := by omega
  generalize s % 6 = z at *
  go_enter Tryd.func23, Tryd.ntmps23
  go_wp2_with fail
  refine (cP.out _).mono ?_
  rintro e w' ⟨rfl, rfl⟩
  clear cP
  have hk : z = 0 ∨ z = 1 ∨ z = 2 ∨ z = 3 ∨ z = 4 ∨ z = 5 := by omega
  rcases hk with rfl | rfl | rfl | rfl | rfl | rfl
  · clear h0 h6
    go_wp2
    exact bodyPost_ret (v := .agg #[.int .i64 0, .int .i64 1, .int .i64 2]) (by simp [results, Tryd.results23, go_sem]) rfl ⟨⟨0, 1, 2, by omega, by omega, by omega, rfl⟩, ((Below.refl _ _).alloc (Nat.le_refl _) _).alloc (by simp) _⟩
  · clear h0 h6
    go_wp2
    exact bodyPost_ret (v := .agg #[.int .i64 0, .int .i64 2, .int .i64 1]) (by simp [results, Tryd.results23, go_sem]) rfl ⟨⟨0, 2, 1, by omega, by omega, by omega, rfl⟩, ((Below.refl _ _).alloc (Nat.le_refl _) _).alloc (by simp) _⟩
  · clear h0 h6
    go_wp2
    exact bodyPost_ret (v := .agg #[.int .i64 1, .int .i64 0, .int .i64 2]) (by simp [results, Tryd.results23, go_sem]) rfl ⟨⟨1, 0, 2, by omega, by omega, by omega, rfl⟩, ((Below.refl _ _).alloc (Nat.le_refl _) _).alloc (by simp) _⟩
  · clear h0 h6
    go_wp2
    exact bodyPost_ret (v := .agg #[.int .i64 1, .int .i64 2, .int .i64 0]) (by simp [results, Tryd.results23, go_sem]) rfl ⟨⟨1, 2, 0, by omega, by omega, by omega, rfl⟩, ((Below.refl _ _).alloc (Nat.le_refl _) _).alloc (by simp) _⟩
  · clear h0 h6
    go_wp2
    exact bodyPost_ret (v := .agg #[.int .i64 2, .int .i64 0, .int .i64 1]) (by simp [results, Tryd.results23, go_sem]) rfl ⟨⟨2, 0, 1, by omega, by omega, by omega, rfl⟩, ((Below.refl _ _).alloc (Nat.le_refl _) _).alloc (by simp) _⟩
  · clear h0 h6
    go_wp2
    exact bodyPost_ret (v := .agg #[.int .i64 2, .int .i64 1, .int .i64 0]) (by simp [results, Tryd.results23, go_sem]) rfl ⟨⟨2, 1, 0, by omega, by omega, by omega, rfl⟩, ((Below.refl _ _).alloc (Nat.le_refl _) _).alloc (by simp) _⟩
end Go.Proofs.YtdabmoekhobgiaaDoor
