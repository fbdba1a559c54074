/-
  Contract of laws.without: the parts of a range that are in none of the ranges of a list, in new memory of the call's own. Conditions: the list lies in memory, it is sorted, and its numbers and those of the range are code points.
-/
import Derived.Test.YtdabmoekhobgiaaDoorOverA
import Derived.Test.YtdabmoekhobgiaaDoorStandB
namespace Go.Proofs.YtdabmoekhobgiaaDoor
open Go.RowKit Go.Lib

theorem piece_cells (a b : Nat) (x0 x1 : Nat) (x2 x3 x4 : Int) : rowCells (a, b, ((x0, x1, x2, x3, x4) : Rw).2.2) = [.int .u32 a, .int .u32 b, .int .i32 x2, .int .i32 x3, .int .i32 x4] := rfl

set_option maxHeartbeats 4000000 in
set_option maxRecDepth 1000000 in
theorem without_any (x0 x1 : Nat) (x2 x3 x4 : Int) (M : List Rw) (A : Option Addr) (cap : Nat) (w : World) (hT : RowsAt w A M) (hv : validB M = true) (hx : x0 ≤ x1) (hx' : x1 ≤ 1114111) :
    Calls Tryd.prog 36 #[.agg #[.int .u32 x0, .int .u32 x1, .int .i32 x2, .int .i32 x3, .int .i32 x4], .slice A M.length cap] w fun e w' => ∃ v, e = .returned v ∧ w'.ownsRow w.heap.size 42 5 v (wo (x0, x1, x2, x3, x4) M).length (cellsOf (wo (x0, x1, x2, x3, x4) M)) ∧ Below w.heap.size w w' := by
  obtain ⟨i0, hi, hz0, hz1, hz2⟩ := info_parts info42
  have hlen := valid_length hv
  have HV := Lib.hid hv
  have HI := Lib.hid (woS_inv (x := (x0, x1, x2, x3, x4)) (valid_srt hv) (fun j hj => (okRow_bounds (valid_row hv hj)).2) hx hx')
  have HT := Lib.hid hT
  clear hv hT
  go_enter Tryd.func36, Tryd.ntmps36
  go_wp2_with fail
  have hb0 : Below w.heap.size w (w.alloc (.cells #[.int .u32 x0, .int .u32 x1, .int .i32 x2, .int .i32 x3, .int .i32 x4] 42)) := (Below.refl _ _).alloc (Nat.le_refl _) _
  have hs0 : (w.alloc (.cells #[.int .u32 x0, .int .u32 x1, .int .i32 x2, .int .i32 x3, .int .i32 x4] 42)).heap.size = w.heap.size + 1 := by simp
  have c0 := cell_new w #[.int .u32 x0, .int .u32 x1, .int .i32 x2, .int .i32 x3, .int .i32 x4] 42 0 0
  have c1 := cell_new w #[.int .u32 x0, .int .u32 x1, .int .i32 x2, .int .i32 x3, .int .i32 x4] 42 0 1
  have c2 := cell_new w #[.int .u32 x0, .int .u32 x1, .int .i32 x2, .int .i32 x3, .int .i32 x4] 42 0 2
  have c3 := cell_new w #[.int .u32 x0, .int .u32 x1, .int .i32 x2, .int .i32 x3, .int .i32 x4] 42 0 3
  have c4 := cell_new w #[.int .u32 x0, .int .u32 x1, .int .i32 x2, .int .i32 x3, .int .i32 x4] 42 0 4
  have HC : Hid (∀ wr, Below (w.heap.size + 1) (w.alloc (.cells #[.int .u32 x0, .int .u32 x1, .int .i32 x2, .int .i32 x3, .int .i32 x4] 42)) wr → wr.cell? ⟨w.heap.size, 0, none⟩ = some (.int .u32 x0) ∧ wr.cell? ⟨w.heap.size, 1, none⟩ = some (.int .u32 x1) ∧ wr.cell? ⟨w.heap.size, 2, none⟩ = some (.int .i32 x2) ∧ wr.cell? ⟨w.heap.size, 3, none⟩ = some (.int .i32 x3) ∧ wr.cell? ⟨w.heap.size, 4, none⟩ = some (.int .i32 x4)) := fun wr hb =>
    ⟨(hb.cell (p := ⟨w.heap.size, 0, none⟩) (Nat.lt_succ_self _)).trans c0, (hb.cell (p := ⟨w.heap.size, 1, none⟩) (Nat.lt_succ_self _)).trans c1, (hb.cell (p := ⟨w.heap.size, 2, none⟩) (Nat.lt_succ_self _)).trans c2, (hb.cell (p := ⟨w.heap.size, 3, none⟩) (Nat.lt_succ_self _)).trans c3, (hb.cell (p := ⟨w.heap.size, 4, none⟩) (Nat.lt_succ_self _)).trans c4⟩
  clear c0 c1 c2 c3 c4
  generalize w.alloc (.cells #[.int .u32 x0, .int .u32 x1, .int .i32 x2, .int .i32 x3, .int .i32 x4] 42) = W1 at *
  have HB0 := Lib.hid hb0
  have HT1 := Lib.hid (HT.out.below hb0 (Nat.le_refl _))
  have HEND : Hid (∀ wr v (W : List Rw), wr.ownsRow (w.heap.size + 1) 42 5 v W.length (cellsOf W) → Below (w.heap.size + 1) W1 wr → wr.ownsRow w.heap.size 42 5 v W.length (cellsOf W) ∧ Below w.heap.size w wr) := fun wr v W ho hb =>
    ⟨⟨ho.1, ho.2.imp_right fun ⟨g, cap, cur, hv, hg, r⟩ => ⟨g, cap, cur, hv, by omega, r⟩⟩, hb0.trans (hb.mono (by omega))⟩
  clear hb0 HT
  go_loopw [5, 6, 14] (fun v f i wr => ∃ k : Nat, k ≤ M.length ∧ i = .int .i64 k ∧ f = .int .i64 (woS (x0, x1, x2, x3, x4) M k).1 ∧ wr.ownsRow (w.heap.size + 1) 42 5 v (woS (x0, x1, x2, x3, x4) M k).2.length (cellsOf (woS (x0, x1, x2, x3, x4) M k).2) ∧ Below (w.heap.size + 1) W1 wr)
    (fun _ _ i _ => M.length - (intOf i).toNat)
  case atStart => exact ⟨0, Nat.zero_le _, rfl, rfl, World.ownsRow_nil _ _ _ _, Below.refl _ _⟩
  case round =>
    obtain ⟨k, hk, rfl, rfl, hown, hbl⟩ := hrel
    obtain ⟨d0, d1, d2, d3, d4⟩ := HC.out wr hbl
    have hsz := hbl.size
    rw [hs0] at hsz
    have hinv := HI.out k hk
    have hfl := hinv.hi
    have hnl := hinv.len
    by_cases hlt : k < M.length
    · have HSU := Lib.hid (woS_succ (x0, x1, x2, x3, x4) hlt)
      generalize woS (x0, x1, x2, x3, x4) M k = s at *
      obtain ⟨from_, out⟩ := s
      obtain ⟨b, off, rfl, hb, hc0, hc1, hc2, hc3, hc4⟩ := HT1.out.row hlt
      have hbd := okRow_bounds (valid_row HV.out hlt)
      generalize rowAt M k = y at *
      obtain ⟨y0, y1, y2, y3, y4⟩ := y
      dsimp only at hc0 hc1 hc2 hc3 hc4 hbd hfl hnl
      obtain ⟨hy0, hy1⟩ := hbd
      have hbs : b < w.heap.size + 1 := by omega
      have q0 := (hbl.cell (p := ⟨b, off + k * 5, none⟩) hbs).trans hc0
      have q1 := (hbl.cell (p := ⟨b, off + k * 5 + 1, none⟩) hbs).trans hc1
      have q2 := (hbl.cell (p := ⟨b, off + k * 5 + 2, none⟩) hbs).trans hc2
      have q3 := (hbl.cell (p := ⟨b, off + k * 5 + 3, none⟩) hbs).trans hc3
      have q4 := (hbl.cell (p := ⟨b, off + k * 5 + 4, none⟩) hbs).trans hc4
      clear hc0 hc1 hc2 hc3 hc4 hinv
      have hba : Below (w.heap.size + 1) W1 (wr.alloc (.cells #[.int .u32 y0, .int .u32 y1, .int .i32 y2, .int .i32 y3, .int .i32 y4] 42)) := hbl.alloc hsz _
      have hoa := hown.alloc (.cells #[.int .u32 y0, .int .u32 y1, .int .i32 y2, .int .i32 y3, .int .i32 y4] 42)
      have HO := Lib.hid hoa
      have HB := Lib.hid hba
      have hws : w.heap.size < wr.heap.size := by omega
      have f0 : ∀ o, (wr.alloc o).cell? ⟨w.heap.size, 0, none⟩ = some (.int .u32 x0) := fun o => (World.cell?_alloc_lt wr o ⟨w.heap.size, 0, none⟩ hws).trans d0
      have f1 : ∀ o, (wr.alloc o).cell? ⟨w.heap.size, 1, none⟩ = some (.int .u32 x1) := fun o => (World.cell?_alloc_lt wr o ⟨w.heap.size, 1, none⟩ hws).trans d1
      have f2 : ∀ o, (wr.alloc o).cell? ⟨w.heap.size, 2, none⟩ = some (.int .i32 x2) := fun o => (World.cell?_alloc_lt wr o ⟨w.heap.size, 2, none⟩ hws).trans d2
      have f3 : ∀ o, (wr.alloc o).cell? ⟨w.heap.size, 3, none⟩ = some (.int .i32 x3) := fun o => (World.cell?_alloc_lt wr o ⟨w.heap.size, 3, none⟩ hws).trans d3
      have f4 : ∀ o, (wr.alloc o).cell? ⟨w.heap.size, 4, none⟩ = some (.int .i32 x4) := fun o => (World.cell?_alloc_lt wr o ⟨w.heap.size, 4, none⟩ hws).trans d4
      clear d0 d1 d2 d3 d4
      by_cases e1 : y1 < x0
      · clear hown hbl hoa hba
        rw [woStep, if_pos (.inl e1)] at HSU
        go_wp2
        go_roundw
        case rel => exact ⟨k + 1, by omega, by go_num, by rw [HSU.out], by rw [HSU.out]; exact HO.out, HB.out⟩
        case measure => simp [intOf]; omega
      by_cases e2 : x1 < y0
      · clear hown hbl hoa hba
        rw [woStep, if_pos (.inr e2)] at HSU
        go_wp2
        go_roundw
        case rel => exact ⟨k + 1, by omega, by go_num, by rw [HSU.out], by rw [HSU.out]; exact HO.out, HB.out⟩
        case measure => simp [intOf]; omega
      rw [woStep, if_neg (by show ¬ (y1 < x0 ∨ x1 < y0); omega)] at HSU
      by_cases e3 : from_ < y0
      · rw [if_pos e3] at HSU
        dsimp only at HSU
        have e4 : ((y0 - 1 : Nat) : Int) = (y0 : Int) - 1 := by omega
        have HPC : Hid (rowCells (from_, y0 - 1, x2, x3, x4) = [.int .u32 from_, .int .u32 ((y0 : Int) - 1), .int .i32 x2, .int .i32 x3, .int .i32 x4]) := by
          unfold Hid rowCells; dsimp only; rw [e4]
        clear e4
        go_wp2_with (at_builtin; refine wpList_append_own _ rfl _ _ 33 rfl (w.heap.size + 1) 42 i0 _ 5 20 Tryd.underlying33 hi hz0 hz1 hz2 rfl (by decide) _ _ _ rfl (hoa.alloc _) ⟨wr.heap.size + 1, 0, none⟩ 1 1 [.int .u32 from_, .int .u32 ((y0 : Int) - 1), .int .i32 x2, .int .i32 x3, .int .i32 x4] rfl rfl ?c1 ?c2 ?c3 ?c4 ?c5 ?_)
        case c2 => first | (rw [← HPC.out]; exact rowCells_one _) | exact ⟨rfl, rfl, rfl, rfl, rfl⟩
        case c3 => unfold maxLen; omega
        case c4 => omega
        case c5 => (try simp); omega
        intro v' w1 hown' hgrow _
        have hrel : w1.ownsRow (w.heap.size + 1) 42 5 v' (out ++ [(from_, y0 - 1, x2, x3, x4)]).length (cellsOf (out ++ [(from_, y0 - 1, x2, x3, x4)])) := by
          rw [cellsOf_snoc, HPC.out, List.length_append]; exact hown'
        have hbl1 : Below (w.heap.size + 1) W1 w1 := (hba.alloc (by simp; omega) _).grown hgrow (by simp; omega) (fun g hg => (hown.lt g hg).1)
        have z1 : w1.cell? ⟨wr.heap.size, 1, none⟩ = some (.int .u32 y1) :=
          (World.cell?_of_block (hgrow.block wr.heap.size (by simp; omega) (fun e => by have := (hown.lt _ e.symm).2; omega))).trans ((World.cell?_alloc_lt _ _ ⟨wr.heap.size, 1, none⟩ (by simp)).trans (cell_new wr _ 42 0 1))
        have HO4 := Lib.hid hrel
        have HB4 := Lib.hid hbl1
        clear hown' hgrow hown hbl hrel hbl1 hoa hba q0 q1 q2 q3 q4 f0 f1 f2 f3 f4
        go_wp2
        go_roundw
        case rel => exact ⟨k + 1, by omega, by go_num, by rw [HSU.out]; go_num, by rw [HSU.out]; exact HO4.out, HB4.out⟩
        case measure => simp [intOf]; omega
      · rw [if_neg e3] at HSU
        dsimp only at HSU
        clear hown hbl hoa hba
        go_wp2
        go_roundw
        case rel => exact ⟨k + 1, by omega, by go_num, by rw [HSU.out]; go_num, by rw [HSU.out]; exact HO.out, HB.out⟩
        case measure => simp [intOf]; omega
    · obtain rfl : k = M.length := by omega
      have HWO : Hid (wo (x0, x1, x2, x3, x4) M = if (woS (x0, x1, x2, x3, x4) M M.length).1 ≤ x1 then (woS (x0, x1, x2, x3, x4) M M.length).2 ++ [((woS (x0, x1, x2, x3, x4) M M.length).1, x1, x2, x3, x4)] else (woS (x0, x1, x2, x3, x4) M M.length).2) := rfl
      clear hinv
      generalize woS (x0, x1, x2, x3, x4) M M.length = s at *
      obtain ⟨from_, out⟩ := s
      dsimp only at hfl hnl HWO hown
      by_cases e3 : from_ ≤ x1
      · rw [if_pos e3] at HWO
        have HPC : Hid (rowCells (from_, x1, x2, x3, x4) = [.int .u32 from_, .int .u32 x1, .int .i32 x2, .int .i32 x3, .int .i32 x4]) := rfl
        go_wp2_with (at_builtin; refine wpList_append_own _ rfl _ _ 33 rfl (w.heap.size + 1) 42 i0 _ 5 20 Tryd.underlying33 hi hz0 hz1 hz2 rfl (by decide) _ _ _ rfl (hown.alloc _) ⟨wr.heap.size, 0, none⟩ 1 1 [.int .u32 from_, .int .u32 x1, .int .i32 x2, .int .i32 x3, .int .i32 x4] rfl rfl ?g1 ?g2 ?g3 ?g4 ?g5 ?_)
        case g1 => exact new_list' wr _ 42 rfl
        case g2 => first | (rw [← HPC.out]; exact rowCells_one _) | exact ⟨rfl, rfl, rfl, rfl, rfl⟩
        case g3 => unfold maxLen; omega
        case g4 => omega
        case g5 => (try simp); omega
        intro v' w1 hown' hgrow _
        have hrel : w1.ownsRow (w.heap.size + 1) 42 5 v' (out ++ [(from_, x1, x2, x3, x4)]).length (cellsOf (out ++ [(from_, x1, x2, x3, x4)])) := by
          rw [cellsOf_snoc, HPC.out, List.length_append]; exact hown'
        have hbl1 : Below (w.heap.size + 1) W1 w1 := (hbl.alloc hsz _).grown hgrow (by simp; omega) (fun g hg => (hown.lt g hg).1)
        have HE := Lib.hid (HEND.out w1 v' _ hrel hbl1)
        clear hown' hgrow hown hbl hrel hbl1
        go_wp2
        go_ret
        exact ⟨_, rfl, by rw [HWO.out]; exact HE.out.1, HE.out.2⟩
      · rw [if_neg e3] at HWO
        have HE := Lib.hid (HEND.out wr u5 _ hown hbl)
        clear hown hbl
        go_wp2
        go_ret
        exact ⟨_, rfl, by rw [HWO.out]; exact HE.out.1, HE.out.2⟩
end Go.Proofs.YtdabmoekhobgiaaDoor
