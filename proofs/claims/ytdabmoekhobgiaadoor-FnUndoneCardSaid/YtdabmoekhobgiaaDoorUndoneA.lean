/-
  Contract of laws.undoing, and the plain law of laws.FnUndone: the ranges to which the ranges of a valid list lead, with the deltas turned round, lead back. Conditions: the list lies in memory and is valid, none of its ranges by turns.
-/
import Derived.Test.YtdabmoekhobgiaaDoorMovedA
import Derived.Test.YtdabmoekhobgiaaDoorSorted
import Derived.Test.YtdabmoekhobgiaaDoorStandB
namespace Go.Proofs.YtdabmoekhobgiaaDoor
open Go.RowKit

def undo (c : Nat) (x : Rw) : Rw := ((x.1 + dlt x c).toNat, (x.2.1 + dlt x c).toNat, -dlt x c, -dlt x c, -dlt x c)

theorem perm_at {L M : List Rw} (h : L.Perm M) {i : Nat} (hi : i < L.length) : ∃ j, j < M.length ∧ rowAt M j = rowAt L i := by
  obtain ⟨j, hj, e⟩ := List.getElem_of_mem (h.mem_iff.1 (rowAt_mem hi))
  exact ⟨j, hj, by rw [← e]; exact rowAt_some (List.getElem?_eq_getElem hj)⟩

theorem leads_no_turn {x : Rw} (c : Nat) (h : -1114111 ≤ dlt x c ∧ dlt x c ≤ 1114111) (r : Int) : cv c r x = r + dlt x c := by
  unfold cv; rw [if_neg (by omega)]

theorem dlt_undo (c : Nat) (x : Rw) : dlt (undo c x) c = -dlt x c := dlt_same _ _ _ _

theorem undo_u32 {L M : List Rw} {c : Nat} (hv : validB L = true) (ht : anyTurnsB L = false) (hp : M.Perm (L.map (undo c))) : U32Ok M := fun i hi => by
  obtain ⟨j, hj, e⟩ := perm_at hp hi
  rw [List.length_map] at hj
  rw [← e, map_rowAt hj]
  have hl := leads_dlt (okRow_leads (valid_row hv hj) (anyTurns_at ht hj)) c
  have hb := okRow_bounds (valid_row hv hj)
  exact ⟨by show ((rowAt L j).1 + dlt (rowAt L j) c).toNat < _; omega, by show ((rowAt L j).2.1 + dlt (rowAt L j) c).toNat < _; omega⟩

/-- THE PLAIN LAW, there: a number of a range is led back. -/
theorem undo_there {L M : List Rw} {c : Nat} (hv : validB L = true) (ht : anyTurnsB L = false) (hp : M.Perm (L.map (undo c))) (hm : validB M = true) {r : Int} {i : Nat} (hi : i < L.length) (hr : hasR (rowAt L i) r) :
    askM M c (askM L c r) = r := by
  have hl := leads_dlt (okRow_leads (valid_row hv hi) (anyTurns_at ht hi)) c
  have hb := okRow_bounds (valid_row hv hi)
  rw [(valid_ask hv hi hr c).1, leads_no_turn c ⟨hl.1, hl.2.1⟩]
  obtain ⟨j, hj, e⟩ := perm_at hp.symm (i := i) (by rw [List.length_map]; exact hi)
  rw [map_rowAt hi] at e
  have hr' : hasR (rowAt M j) (r + dlt (rowAt L i) c) := by
    rw [e]
    unfold hasR at hr ⊢
    show (((rowAt L i).1 + dlt (rowAt L i) c).toNat : Int) ≤ _ ∧ _ ≤ (((rowAt L i).2.1 + dlt (rowAt L i) c).toNat : Int)
    omega
  rw [(valid_ask hm hj hr' c).1, e, leads_no_turn c (by rw [dlt_undo]; omega), dlt_undo]
  omega

/-- THE PLAIN LAW, back: a number that the other list has is led there again. -/
theorem undo_back {L M : List Rw} {c : Nat} (hv : validB L = true) (ht : anyTurnsB L = false) (hp : M.Perm (L.map (undo c))) (hm : validB M = true) {r : Int} {j : Nat} (hj : j < M.length) (hr : hasR (rowAt M j) r) :
    askM L c (askM M c r) = r := by
  obtain ⟨i, hi, e⟩ := perm_at hp hj
  rw [List.length_map] at hi
  rw [map_rowAt hi] at e
  have hl := leads_dlt (okRow_leads (valid_row hv hi) (anyTurns_at ht hi)) c
  have hb := okRow_bounds (valid_row hv hi)
  rw [(valid_ask hm hj hr c).1, ← e, leads_no_turn c (by rw [dlt_undo]; omega), dlt_undo]
  have hr' : hasR (rowAt L i) (r + -dlt (rowAt L i) c) := by
    rw [← e] at hr
    unfold hasR at hr ⊢
    have h1 : (((rowAt L i).1 + dlt (rowAt L i) c).toNat : Int) ≤ r ∧ r ≤ (((rowAt L i).2.1 + dlt (rowAt L i) c).toNat : Int) := hr
    omega
  rw [(valid_ask hv hi hr' c).1, leads_no_turn c ⟨hl.1, hl.2.1⟩]
  omega

theorem undo_lo {L : List Rw} {c : Nat} (hv : validB L = true) (ht : anyTurnsB L = false) : ∀ x ∈ L.map (undo c), x.1 < 4294967296 := fun x hx => by
  obtain ⟨y, hy, rfl⟩ := List.mem_map.1 hx
  obtain ⟨j, hj, rfl⟩ := List.getElem_of_mem hy
  have hu := undo_u32 (c := c) hv ht (List.Perm.refl _) j (by rw [List.length_map]; exact hj)
  rw [map_rowAt hj, rowAt_some (List.getElem?_eq_getElem hj)] at hu
  exact hu.1

def IsUndoing (L : List Rw) (c : Nat) (w : World) (e : Ending) (w' : World) : Prop :=
  ∃ M A' cap', e = .returned (.tuple #[.slice A' M.length cap', .bool (validB M)]) ∧ M.Perm (L.map (undo c)) ∧ RowsAt w' A' M ∧ Below w.heap.size w w'

theorem undo_cells (c : Nat) (x0 x1 : Nat) (x2 x3 x4 : Int) (h0 : 0 ≤ (x0 : Int) + dlt (x0, x1, x2, x3, x4) c) (h1 : 0 ≤ (x1 : Int) + dlt (x0, x1, x2, x3, x4) c) :
    rowCells (undo c (x0, x1, x2, x3, x4)) = [.int .u32 ((x0 : Int) + dlt (x0, x1, x2, x3, x4) c), .int .u32 ((x1 : Int) + dlt (x0, x1, x2, x3, x4) c), .int .i32 (-dlt (x0, x1, x2, x3, x4) c), .int .i32 (-dlt (x0, x1, x2, x3, x4) c), .int .i32 (-dlt (x0, x1, x2, x3, x4) c)] := by
  unfold rowCells undo
  dsimp only
  rw [Int.toNat_of_nonneg h0, Int.toNat_of_nonneg h1]

set_option maxHeartbeats 2000000 in
set_option maxRecDepth 1000000 in
theorem undoing_0 (L : List Rw) (A : Option Addr) (cap : Nat) (w : World) (hT : RowsAt w A L) (hv : validB L = true) (ht : anyTurnsB L = false) :
    Calls Tryd.prog 38 #[.slice A L.length cap, .int .i64 0] w (IsUndoing L 0 w) := by
  obtain ⟨i0, hi, hz0, hz1, hz2⟩ := info_parts info42
  have hlen := valid_length hv
  have HV := Lib.hid hv
  have HTU := Lib.hid ht
  have HT := Lib.hid hT
  clear hv ht hT
  go_enter Tryd.func38, Tryd.ntmps38
  go_wp2
  go_loopw [6, 12] (fun v i wr => ∃ k : Nat, k ≤ L.length ∧ i = .int .i64 k ∧ wr.ownsRow w.heap.size 42 5 v k (cellsOf ((L.take k).map (undo 0))) ∧ Below w.heap.size w wr)
    (fun _ i _ => L.length - (intOf i).toNat)
  case atStart => exact ⟨0, Nat.zero_le _, rfl, World.ownsRow_nil _ _ _ _, Below.refl _ _⟩
  case round =>
    obtain ⟨k, hk, rfl, hown, hbl⟩ := hrel
    by_cases hlt : k < L.length
    · obtain ⟨b, off, rfl, hb, hc0, hc1, hc2, hc3, hc4⟩ := HT.out.row hlt
      have hl := leads_dlt (okRow_leads (valid_row HV.out hlt) (anyTurns_at HTU.out hlt)) 0
      have hbd := okRow_bounds (valid_row HV.out hlt)
      have hcl := undo_cells 0 (rowAt L k).1 (rowAt L k).2.1 (rowAt L k).2.2.1 (rowAt L k).2.2.2.1 (rowAt L k).2.2.2.2 hl.2.2.1 (by have := hl.2.2.1; show 0 ≤ ((rowAt L k).2.1 : Int) + dlt (rowAt L k) 0; omega)
      have hts := take_snoc hlt
      generalize rowAt L k = x at *
      obtain ⟨x0, x1, x2, x3, x4⟩ := x
      dsimp only [dlt] at hc0 hc1 hc2 hc3 hc4 hl hbd hcl
      have HC : Hid (rowCells (undo 0 (x0, x1, x2, x3, x4)) = [.int .u32 ((x0 : Int) + x2), .int .u32 ((x1 : Int) + x2), .int .i32 (-x2), .int .i32 (-x2), .int .i32 (-x2)]) := hcl
      have HTS := Lib.hid hts
      obtain ⟨hl0, hl1, hl2, hl3⟩ : -1114111 ≤ x2 ∧ x2 ≤ 1114111 ∧ 0 ≤ (x0 : Int) + x2 ∧ (x1 : Int) + x2 ≤ 1114111 := hl
      obtain ⟨hb0, hb1⟩ := hbd
      have q0 := (hbl.cell (p := ⟨b, off + k * 5, none⟩) hb).trans hc0
      have q1 := (hbl.cell (p := ⟨b, off + k * 5 + 1, none⟩) hb).trans hc1
      have q2 := (hbl.cell (p := ⟨b, off + k * 5 + 2, none⟩) hb).trans hc2
      have q3 := (hbl.cell (p := ⟨b, off + k * 5 + 3, none⟩) hb).trans hc3
      have q4 := (hbl.cell (p := ⟨b, off + k * 5 + 4, none⟩) hb).trans hc4
      clear hc0 hc1 hc2 hc3 hc4 HT hcl hts
      have hsz := hbl.size
      go_wp2_with (at_builtin; refine wpList_append_own _ rfl _ _ 33 rfl w.heap.size 42 i0 _ 5 20 Tryd.underlying33 hi hz0 hz1 hz2 rfl (by decide) _ _ _ rfl ((hown.alloc _).alloc _) ⟨wr.heap.size + 1, 0, none⟩ 1 1 [.int .u32 ((x0 : Int) + x2), .int .u32 ((x1 : Int) + x2), .int .i32 (-x2), .int .i32 (-x2), .int .i32 (-x2)] rfl rfl ?c1 ?c2 ?c3 ?c4 ?c5 ?_)
      case c1 => exact new_list' (wr.alloc _) _ 42 (by simp)
      case c2 => rw [← HC.out]; exact rowCells_one _
      case c3 => unfold maxLen; omega
      case c4 => omega
      case c5 => (try simp); omega
      intro v' w1 hown' hgrow _
      have hrel : w1.ownsRow w.heap.size 42 5 v' (k + 1) (cellsOf ((L.take (k + 1)).map (undo 0))) := by
        rw [HTS.out, List.map_append, List.map_singleton, cellsOf_snoc, HC.out, List.map_take]; exact hown'
      have hbl1 : Below w.heap.size w w1 := ((hbl.alloc hsz _).alloc (by simp; omega) _).grown hgrow (by simp; omega) (fun g hg => (hown.lt g hg).1)
      have HO4 := Lib.hid hrel
      have HB4 := Lib.hid hbl1
      clear hown' hgrow hown hbl hrel hbl1 q0 q1 q2 q3 q4
      go_wp2
      go_roundw
      case rel => exact ⟨k + 1, by omega, by go_num, HO4.out, HB4.out⟩
      case measure => simp [intOf]; omega
    · obtain rfl : k = L.length := by omega
      rw [List.take_of_length_le (Nat.le_refl _)] at hown
      obtain ⟨-, A', cap', hv, hrows, -⟩ := own_rows hown
      subst hv
      have cS := Lib.hid (sorted_any (L.map (undo 0)) A' cap' wr hrows (undo_lo HV.out HTU.out) (by rw [List.length_map]; omega))
      rw [List.length_map] at cS
      have HB := Lib.hid hbl
      clear hown hrows hbl
      go_wp2_with fail
      refine (cS.out).mono ?_
      rintro e w1 ⟨M, A1, cap1, rfl, hp, -, hR, hb1⟩
      have cV := Lib.hid (valid_any M A1 cap1 w1 hR (undo_u32 HV.out HTU.out hp) (by rw [hp.length_eq, List.length_map]; omega))
      have HP := Lib.hid hp
      have HR := Lib.hid hR
      have HB1 := Lib.hid (HB.out.trans (hb1.mono HB.out.size))
      clear hp hR hb1 cS HB
      obtain ⟨vm, hvm⟩ : ∃ vm, validB M = vm := ⟨_, rfl⟩
      rw [hvm] at cV
      have HVM := Lib.hid hvm
      clear hvm
      go_wp2_with fail
      refine (cV.out).mono ?_
      rintro e w2 ⟨rfl, hb2⟩
      have HR2 := Lib.hid (HR.out.below hb2 (Nat.le_refl _))
      have HB2 := Lib.hid (HB1.out.trans (hb2.mono HB1.out.size))
      clear hb2
      go_wp2
      go_ret2
      exact ⟨M, A1, cap1, by rw [HVM.out]; rfl, HP.out, HR2.out, HB2.out⟩

set_option maxHeartbeats 2000000 in
set_option maxRecDepth 1000000 in
theorem undoing_1 (L : List Rw) (A : Option Addr) (cap : Nat) (w : World) (hT : RowsAt w A L) (hv : validB L = true) (ht : anyTurnsB L = false) :
    Calls Tryd.prog 38 #[.slice A L.length cap, .int .i64 1] w (IsUndoing L 1 w) := by
  obtain ⟨i0, hi, hz0, hz1, hz2⟩ := info_parts info42
  have hlen := valid_length hv
  have HV := Lib.hid hv
  have HTU := Lib.hid ht
  have HT := Lib.hid hT
  clear hv ht hT
  go_enter Tryd.func38, Tryd.ntmps38
  go_wp2
  go_loopw [6, 12] (fun v i wr => ∃ k : Nat, k ≤ L.length ∧ i = .int .i64 k ∧ wr.ownsRow w.heap.size 42 5 v k (cellsOf ((L.take k).map (undo 1))) ∧ Below w.heap.size w wr)
    (fun _ i _ => L.length - (intOf i).toNat)
  case atStart => exact ⟨0, Nat.zero_le _, rfl, World.ownsRow_nil _ _ _ _, Below.refl _ _⟩
  case round =>
    obtain ⟨k, hk, rfl, hown, hbl⟩ := hrel
    by_cases hlt : k < L.length
    · obtain ⟨b, off, rfl, hb, hc0, hc1, hc2, hc3, hc4⟩ := HT.out.row hlt
      have hl := leads_dlt (okRow_leads (valid_row HV.out hlt) (anyTurns_at HTU.out hlt)) 1
      have hbd := okRow_bounds (valid_row HV.out hlt)
      have hcl := undo_cells 1 (rowAt L k).1 (rowAt L k).2.1 (rowAt L k).2.2.1 (rowAt L k).2.2.2.1 (rowAt L k).2.2.2.2 hl.2.2.1 (by have := hl.2.2.1; show 0 ≤ ((rowAt L k).2.1 : Int) + dlt (rowAt L k) 1; omega)
      have hts := take_snoc hlt
      generalize rowAt L k = x at *
      obtain ⟨x0, x1, x2, x3, x4⟩ := x
      dsimp only [dlt] at hc0 hc1 hc2 hc3 hc4 hl hbd hcl
      have HC : Hid (rowCells (undo 1 (x0, x1, x2, x3, x4)) = [.int .u32 ((x0 : Int) + x3), .int .u32 ((x1 : Int) + x3), .int .i32 (-x3), .int .i32 (-x3), .int .i32 (-x3)]) := hcl
      have HTS := Lib.hid hts
      obtain ⟨hl0, hl1, hl2, hl3⟩ : -1114111 ≤ x3 ∧ x3 ≤ 1114111 ∧ 0 ≤ (x0 : Int) + x3 ∧ (x1 : Int) + x3 ≤ 1114111 := hl
      obtain ⟨hb0, hb1⟩ := hbd
      have q0 := (hbl.cell (p := ⟨b, off + k * 5, none⟩) hb).trans hc0
      have q1 := (hbl.cell (p := ⟨b, off + k * 5 + 1, none⟩) hb).trans hc1
      have q2 := (hbl.cell (p := ⟨b, off + k * 5 + 2, none⟩) hb).trans hc2
      have q3 := (hbl.cell (p := ⟨b, off + k * 5 + 3, none⟩) hb).trans hc3
      have q4 := (hbl.cell (p := ⟨b, off + k * 5 + 4, none⟩) hb).trans hc4
      clear hc0 hc1 hc2 hc3 hc4 HT hcl hts
      have hsz := hbl.size
      go_wp2_with (at_builtin; refine wpList_append_own _ rfl _ _ 33 rfl w.heap.size 42 i0 _ 5 20 Tryd.underlying33 hi hz0 hz1 hz2 rfl (by decide) _ _ _ rfl ((hown.alloc _).alloc _) ⟨wr.heap.size + 1, 0, none⟩ 1 1 [.int .u32 ((x0 : Int) + x3), .int .u32 ((x1 : Int) + x3), .int .i32 (-x3), .int .i32 (-x3), .int .i32 (-x3)] rfl rfl ?c1 ?c2 ?c3 ?c4 ?c5 ?_)
      case c1 => exact new_list' (wr.alloc _) _ 42 (by simp)
      case c2 => rw [← HC.out]; exact rowCells_one _
      case c3 => unfold maxLen; omega
      case c4 => omega
      case c5 => (try simp); omega
      intro v' w1 hown' hgrow _
      have hrel : w1.ownsRow w.heap.size 42 5 v' (k + 1) (cellsOf ((L.take (k + 1)).map (undo 1))) := by
        rw [HTS.out, List.map_append, List.map_singleton, cellsOf_snoc, HC.out, List.map_take]; exact hown'
      have hbl1 : Below w.heap.size w w1 := ((hbl.alloc hsz _).alloc (by simp; omega) _).grown hgrow (by simp; omega) (fun g hg => (hown.lt g hg).1)
      have HO4 := Lib.hid hrel
      have HB4 := Lib.hid hbl1
      clear hown' hgrow hown hbl hrel hbl1 q0 q1 q2 q3 q4
      go_wp2
      go_roundw
      case rel => exact ⟨k + 1, by omega, by go_num, HO4.out, HB4.out⟩
      case measure => simp [intOf]; omega
    · obtain rfl : k = L.length := by omega
      rw [List.take_of_length_le (Nat.le_refl _)] at hown
      obtain ⟨-, A', cap', hv, hrows, -⟩ := own_rows hown
      subst hv
      have cS := Lib.hid (sorted_any (L.map (undo 1)) A' cap' wr hrows (undo_lo HV.out HTU.out) (by rw [List.length_map]; omega))
      rw [List.length_map] at cS
      have HB := Lib.hid hbl
      clear hown hrows hbl
      go_wp2_with fail
      refine (cS.out).mono ?_
      rintro e w1 ⟨M, A1, cap1, rfl, hp, -, hR, hb1⟩
      have cV := Lib.hid (valid_any M A1 cap1 w1 hR (undo_u32 HV.out HTU.out hp) (by rw [hp.length_eq, List.length_map]; omega))
      have HP := Lib.hid hp
      have HR := Lib.hid hR
      have HB1 := Lib.hid (HB.out.trans (hb1.mono HB.out.size))
      clear hp hR hb1 cS HB
      obtain ⟨vm, hvm⟩ : ∃ vm, validB M = vm := ⟨_, rfl⟩
      rw [hvm] at cV
      have HVM := Lib.hid hvm
      clear hvm
      go_wp2_with fail
      refine (cV.out).mono ?_
      rintro e w2 ⟨rfl, hb2⟩
      have HR2 := Lib.hid (HR.out.below hb2 (Nat.le_refl _))
      have HB2 := Lib.hid (HB1.out.trans (hb2.mono HB1.out.size))
      clear hb2
      go_wp2
      go_ret2
      exact ⟨M, A1, cap1, by rw [HVM.out]; rfl, HP.out, HR2.out, HB2.out⟩

set_option maxHeartbeats 2000000 in
set_option maxRecDepth 1000000 in
theorem undoing_2 (L : List Rw) (A : Option Addr) (cap : Nat) (w : World) (hT : RowsAt w A L) (hv : validB L = true) (ht : anyTurnsB L = false) :
    Calls Tryd.prog 38 #[.slice A L.length cap, .int .i64 2] w (IsUndoing L 2 w) := by
  obtain ⟨i0, hi, hz0, hz1, hz2⟩ := info_parts info42
  have hlen := valid_length hv
  have HV := Lib.hid hv
  have HTU := Lib.hid ht
  have HT := Lib.hid hT
  clear hv ht hT
  go_enter Tryd.func38, Tryd.ntmps38
  go_wp2
  go_loopw [6, 12] (fun v i wr => ∃ k : Nat, k ≤ L.length ∧ i = .int .i64 k ∧ wr.ownsRow w.heap.size 42 5 v k (cellsOf ((L.take k).map (undo 2))) ∧ Below w.heap.size w wr)
    (fun _ i _ => L.length - (intOf i).toNat)
  case atStart => exact ⟨0, Nat.zero_le _, rfl, World.ownsRow_nil _ _ _ _, Below.refl _ _⟩
  case round =>
    obtain ⟨k, hk, rfl, hown, hbl⟩ := hrel
    by_cases hlt : k < L.length
    · obtain ⟨b, off, rfl, hb, hc0, hc1, hc2, hc3, hc4⟩ := HT.out.row hlt
      have hl := leads_dlt (okRow_leads (valid_row HV.out hlt) (anyTurns_at HTU.out hlt)) 2
      have hbd := okRow_bounds (valid_row HV.out hlt)
      have hcl := undo_cells 2 (rowAt L k).1 (rowAt L k).2.1 (rowAt L k).2.2.1 (rowAt L k).2.2.2.1 (rowAt L k).2.2.2.2 hl.2.2.1 (by have := hl.2.2.1; show 0 ≤ ((rowAt L k).2.1 : Int) + dlt (rowAt L k) 2; omega)
      have hts := take_snoc hlt
      generalize rowAt L k = x at *
      obtain ⟨x0, x1, x2, x3, x4⟩ := x
      dsimp only [dlt] at hc0 hc1 hc2 hc3 hc4 hl hbd hcl
      have HC : Hid (rowCells (undo 2 (x0, x1, x2, x3, x4)) = [.int .u32 ((x0 : Int) + x4), .int .u32 ((x1 : Int) + x4), .int .i32 (-x4), .int .i32 (-x4), .int .i32 (-x4)]) := hcl
      have HTS := Lib.hid hts
      obtain ⟨hl0, hl1, hl2, hl3⟩ : -1114111 ≤ x4 ∧ x4 ≤ 1114111 ∧ 0 ≤ (x0 : Int) + x4 ∧ (x1 : Int) + x4 ≤ 1114111 := hl
      obtain ⟨hb0, hb1⟩ := hbd
      have q0 := (hbl.cell (p := ⟨b, off + k * 5, none⟩) hb).trans hc0
      have q1 := (hbl.cell (p := ⟨b, off + k * 5 + 1, none⟩) hb).trans hc1
      have q2 := (hbl.cell (p := ⟨b, off + k * 5 + 2, none⟩) hb).trans hc2
      have q3 := (hbl.cell (p := ⟨b, off + k * 5 + 3, none⟩) hb).trans hc3
      have q4 := (hbl.cell (p := ⟨b, off + k * 5 + 4, none⟩) hb).trans hc4
      clear hc0 hc1 hc2 hc3 hc4 HT hcl hts
      have hsz := hbl.size
      go_wp2_with (at_builtin; refine wpList_append_own _ rfl _ _ 33 rfl w.heap.size 42 i0 _ 5 20 Tryd.underlying33 hi hz0 hz1 hz2 rfl (by decide) _ _ _ rfl ((hown.alloc _).alloc _) ⟨wr.heap.size + 1, 0, none⟩ 1 1 [.int .u32 ((x0 : Int) + x4), .int .u32 ((x1 : Int) + x4), .int .i32 (-x4), .int .i32 (-x4), .int .i32 (-x4)] rfl rfl ?c1 ?c2 ?c3 ?c4 ?c5 ?_)
      case c1 => exact new_list' (wr.alloc _) _ 42 (by simp)
      case c2 => rw [← HC.out]; exact rowCells_one _
      case c3 => unfold maxLen; omega
      case c4 => omega
      case c5 => (try simp); omega
      intro v' w1 hown' hgrow _
      have hrel : w1.ownsRow w.heap.size 42 5 v' (k + 1) (cellsOf ((L.take (k + 1)).map (undo 2))) := by
        rw [HTS.out, List.map_append, List.map_singleton, cellsOf_snoc, HC.out, List.map_take]; exact hown'
      have hbl1 : Below w.heap.size w w1 := ((hbl.alloc hsz _).alloc (by simp; omega) _).grown hgrow (by simp; omega) (fun g hg => (hown.lt g hg).1)
      have HO4 := Lib.hid hrel
      have HB4 := Lib.hid hbl1
      clear hown' hgrow hown hbl hrel hbl1 q0 q1 q2 q3 q4
      go_wp2
      go_roundw
      case rel => exact ⟨k + 1, by omega, by go_num, HO4.out, HB4.out⟩
      case measure => simp [intOf]; omega
    · obtain rfl : k = L.length := by omega
      rw [List.take_of_length_le (Nat.le_refl _)] at hown
      obtain ⟨-, A', cap', hv, hrows, -⟩ := own_rows hown
      subst hv
      have cS := Lib.hid (sorted_any (L.map (undo 2)) A' cap' wr hrows (undo_lo HV.out HTU.out) (by rw [List.length_map]; omega))
      rw [List.length_map] at cS
      have HB := Lib.hid hbl
      clear hown hrows hbl
      go_wp2_with fail
      refine (cS.out).mono ?_
      rintro e w1 ⟨M, A1, cap1, rfl, hp, -, hR, hb1⟩
      have cV := Lib.hid (valid_any M A1 cap1 w1 hR (undo_u32 HV.out HTU.out hp) (by rw [hp.length_eq, List.length_map]; omega))
      have HP := Lib.hid hp
      have HR := Lib.hid hR
      have HB1 := Lib.hid (HB.out.trans (hb1.mono HB.out.size))
      clear hp hR hb1 cS HB
      obtain ⟨vm, hvm⟩ : ∃ vm, validB M = vm := ⟨_, rfl⟩
      rw [hvm] at cV
      have HVM := Lib.hid hvm
      clear hvm
      go_wp2_with fail
      refine (cV.out).mono ?_
      rintro e w2 ⟨rfl, hb2⟩
      have HR2 := Lib.hid (HR.out.below hb2 (Nat.le_refl _))
      have HB2 := Lib.hid (HB1.out.trans (hb2.mono HB1.out.size))
      clear hb2
      go_wp2
      go_ret2
      exact ⟨M, A1, cap1, by rw [HVM.out]; rfl, HP.out, HR2.out, HB2.out⟩

theorem undoing_any (L : List Rw) (A : Option Addr) (cap : Nat) (c : Nat) (hc : c < 3) (w : World) (hT : RowsAt w A L) (hv : validB L = true) (ht : anyTurnsB L = false) :
    Calls Tryd.prog 38 #[.slice A L.length cap, .int .i64 c] w (IsUndoing L c w) := by
  match c, hc with
  | 0, _ => exact undoing_0 L A cap w hT hv ht
  | 1, _ => exact undoing_1 L A cap w hT hv ht
  | 2, _ => exact undoing_2 L A cap w hT hv ht
end Go.Proofs.YtdabmoekhobgiaaDoor
