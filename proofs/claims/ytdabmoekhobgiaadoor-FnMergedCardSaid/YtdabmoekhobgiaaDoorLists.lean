/-
  Contracts of laws.ranges and laws.list: a list becomes a list of the same rows in new memory. Conditions: the list lies in memory and is short enough to be copied.
-/
import Derived.Test.YtdabmoekhobgiaaDoorMem
namespace Go.Proofs.YtdabmoekhobgiaaDoor
open Go.RowKit

theorem info42 : (Tryd.prog.info? 42).map (fun i => (i.zero, i.size, i.bytes)) = some (some (.agg #[.int .u32 0, .int .u32 0, .int .i32 0, .int .i32 0, .int .i32 0]), 5, 20) := by kernel_rfl
theorem info26 : (Tryd.prog.info? 26).map (fun i => (i.zero, i.size, i.bytes)) = some (some (.agg #[.int .u32 0, .int .u32 0, .int .i32 0, .int .i32 0, .int .i32 0]), 5, 20) := by kernel_rfl

set_option maxHeartbeats 1000000 in
set_option maxRecDepth 1000000 in
theorem ranges_any (L : List Rw) (A : Option Addr) (cap : Nat) (w : World) (hT : RowsAt w A L) (hlen : L.length * 20 ≤ 140737488355328) :
    Calls Tryd.prog 20 #[.slice A L.length cap] w fun e w' => ∃ A' cap', e = .returned (.slice A' L.length cap') ∧ RowsAt w' A' L ∧ Below w.heap.size w w' := by
  obtain ⟨i0, hi, hz0, hz1, hz2⟩ := info_parts info42
  go_enter Tryd.func20, Tryd.ntmps20
  go_wp2
  go_loopw [3, 8] (fun v i wr => ∃ k : Nat, k ≤ L.length ∧ i = .int .i64 k ∧ wr.ownsRow w.heap.size 42 5 v k (cellsOf (L.take k)) ∧ Below w.heap.size w wr)
    (fun _ i _ => L.length - (intOf i).toNat)
  case atStart => exact ⟨0, Nat.zero_le _, rfl, World.ownsRow_nil _ _ _ _, Below.refl _ _⟩
  case round =>
    obtain ⟨k, hk, rfl, hown, hbl⟩ := hrel
    by_cases hlt : k < L.length
    · obtain ⟨b, off, rfl, hb, hc0, hc1, hc2, hc3, hc4⟩ := hT.row hlt
      obtain ⟨x, hx⟩ : ∃ x, rowAt L k = x := ⟨_, rfl⟩
      rw [hx] at hc0 hc1 hc2 hc3 hc4
      have HX := Lib.hid hx
      clear hx
      obtain ⟨x0, x1, x2, x3, x4⟩ := x
      dsimp only at hc0 hc1 hc2 hc3 hc4
      have q0 := (hbl.cell (p := ⟨b, off + k * 5, none⟩) hb).trans hc0
      have q1 := (hbl.cell (p := ⟨b, off + k * 5 + 1, none⟩) hb).trans hc1
      have q2 := (hbl.cell (p := ⟨b, off + k * 5 + 2, none⟩) hb).trans hc2
      have q3 := (hbl.cell (p := ⟨b, off + k * 5 + 3, none⟩) hb).trans hc3
      have q4 := (hbl.cell (p := ⟨b, off + k * 5 + 4, none⟩) hb).trans hc4
      clear hc0 hc1 hc2 hc3 hc4 hT
      have hsz := hbl.size
      go_wp2_with (at_builtin; refine wpList_append_own _ rfl _ _ 33 rfl w.heap.size 42 i0 _ 5 20 Tryd.underlying33 hi hz0 hz1 hz2 rfl (by decide) _ _ _ rfl ((hown.alloc _).alloc _) ⟨wr.heap.size + 1, 0, none⟩ 1 1 (rowCells (x0, x1, x2, x3, x4)) rfl rfl ?c1 ?c2 ?c3 ?c4 ?c5 ?_)
      case c1 => exact new_cells _ (x0, x1, x2, x3, x4) 42 (by simp)
      case c2 => exact rowCells_one _
      case c3 => unfold maxLen; omega
      case c4 => omega
      case c5 => simp; omega
      intro v' w1 hown' hgrow _
      have hrel : w1.ownsRow w.heap.size 42 5 v' (k + 1) (cellsOf (L.take (k + 1))) := by
        rw [take_snoc hlt, HX.out, cellsOf_snoc]; exact hown'
      have hbl1 : Below w.heap.size w w1 := ((hbl.alloc hsz _).alloc (by simp; omega) _).grown hgrow (by simp; omega) (fun g hg => (hown.lt g hg).1)
      clear hown' hgrow hown hbl q0 q1 q2 q3 q4
      go_wp2
      go_roundw
      case rel => exact ⟨k + 1, by omega, by go_num, hrel, hbl1⟩
      case measure => simp [intOf]; omega
    · obtain rfl : k = L.length := by omega
      rw [List.take_of_length_le (Nat.le_refl _)] at hown
      obtain ⟨-, A', cap', hv, hrows, -⟩ := own_rows hown
      subst hv
      have HR := Lib.hid hrows
      have HB := Lib.hid hbl
      clear hown hrows hbl hT
      go_wp2
      go_ret
      exact ⟨A', cap', rfl, HR.out, HB.out⟩

set_option maxHeartbeats 1000000 in
set_option maxRecDepth 1000000 in
theorem list_any (L : List Rw) (A : Option Addr) (cap : Nat) (w : World) (hT : RowsAt w A L) (hlen : L.length * 20 ≤ 140737488355328) :
    Calls Tryd.prog 28 #[.slice A L.length cap] w fun e w' => ∃ A' cap', e = .returned (.slice A' L.length cap') ∧ RowsAt w' A' L ∧ Below w.heap.size w w' := by
  obtain ⟨i0, hi, hz0, hz1, hz2⟩ := info_parts info26
  go_enter Tryd.func28, Tryd.ntmps28
  go_wp2
  go_loopw [3, 8] (fun v i wr => ∃ k : Nat, k ≤ L.length ∧ i = .int .i64 k ∧ wr.ownsRow w.heap.size 26 5 v k (cellsOf (L.take k)) ∧ Below w.heap.size w wr)
    (fun _ i _ => L.length - (intOf i).toNat)
  case atStart => exact ⟨0, Nat.zero_le _, rfl, World.ownsRow_nil _ _ _ _, Below.refl _ _⟩
  case round =>
    obtain ⟨k, hk, rfl, hown, hbl⟩ := hrel
    by_cases hlt : k < L.length
    · obtain ⟨b, off, rfl, hb, hc0, hc1, hc2, hc3, hc4⟩ := hT.row hlt
      obtain ⟨x, hx⟩ : ∃ x, rowAt L k = x := ⟨_, rfl⟩
      rw [hx] at hc0 hc1 hc2 hc3 hc4
      have HX := Lib.hid hx
      clear hx
      obtain ⟨x0, x1, x2, x3, x4⟩ := x
      dsimp only at hc0 hc1 hc2 hc3 hc4
      have q0 := (hbl.cell (p := ⟨b, off + k * 5, none⟩) hb).trans hc0
      have q1 := (hbl.cell (p := ⟨b, off + k * 5 + 1, none⟩) hb).trans hc1
      have q2 := (hbl.cell (p := ⟨b, off + k * 5 + 2, none⟩) hb).trans hc2
      have q3 := (hbl.cell (p := ⟨b, off + k * 5 + 3, none⟩) hb).trans hc3
      have q4 := (hbl.cell (p := ⟨b, off + k * 5 + 4, none⟩) hb).trans hc4
      clear hc0 hc1 hc2 hc3 hc4 hT
      have hsz := hbl.size
      go_wp2_with (at_builtin; refine wpList_append_own _ rfl _ _ 27 rfl w.heap.size 26 i0 _ 5 20 Tryd.underlying27 hi hz0 hz1 hz2 rfl (by decide) _ _ _ rfl ((hown.alloc _).alloc _) ⟨wr.heap.size + 1, 0, none⟩ 1 1 (rowCells (x0, x1, x2, x3, x4)) rfl rfl ?c1 ?c2 ?c3 ?c4 ?c5 ?_)
      case c1 => exact new_cells _ (x0, x1, x2, x3, x4) 26 (by simp)
      case c2 => exact rowCells_one _
      case c3 => unfold maxLen; omega
      case c4 => omega
      case c5 => simp; omega
      intro v' w1 hown' hgrow _
      have hrel : w1.ownsRow w.heap.size 26 5 v' (k + 1) (cellsOf (L.take (k + 1))) := by
        rw [take_snoc hlt, HX.out, cellsOf_snoc]; exact hown'
      have hbl1 : Below w.heap.size w w1 := ((hbl.alloc hsz _).alloc (by simp; omega) _).grown hgrow (by simp; omega) (fun g hg => (hown.lt g hg).1)
      clear hown' hgrow hown hbl q0 q1 q2 q3 q4
      go_wp2
      go_roundw
      case rel => exact ⟨k + 1, by omega, by go_num, hrel, hbl1⟩
      case measure => simp [intOf]; omega
    · obtain rfl : k = L.length := by omega
      rw [List.take_of_length_le (Nat.le_refl _)] at hown
      obtain ⟨-, A', cap', hv, hrows, -⟩ := own_rows hown
      subst hv
      have HR := Lib.hid hrows
      have HB := Lib.hid hbl
      clear hown hrows hbl hT
      go_wp2
      go_ret
      exact ⟨A', cap', rfl, HR.out, HB.out⟩

end Go.Proofs.YtdabmoekhobgiaaDoor
