/-
  Contracts of laws.ranges (what it hands back is the call's own), slices.Grow at a nil slice (by the shelf's contract) and slices.Concat at two lists. Conditions: the lists lie in memory, and together they are short enough for one slice.
-/
import Derived.Test.YtdabmoekhobgiaaDoorClone
import Derived.Test.YtdabmoekhobgiaaDoorScriptA
import Derived.Test.YtdabmoekhobgiaaDoorGrowL
import Derived.Laws.AppendOwnNone
namespace Go.Proofs.YtdabmoekhobgiaaDoor
open Go.RowKit

set_option maxHeartbeats 1000000 in
set_option maxRecDepth 1000000 in
theorem ranges_own (L : List Rw) (A : Option Addr) (cap : Nat) (w : World) (hT : RowsAt w A L) (hlen : L.length * 20 ≤ 140737488355328) :
    Calls Tryd.prog 20 #[.slice A L.length cap] w fun e w' => ∃ v, e = .returned v ∧ w'.ownsRow w.heap.size 42 5 v L.length (cellsOf L) ∧ Below w.heap.size w w' := by
  obtain ⟨i0, hi, hz0, hz1, hz2⟩ := info_parts info42
  go_enter Tryd.func20, Tryd.ntmps20
  go_wp2
  go_loopw [3, 8] (fun v i wr => ∃ k : Nat, k ≤ L.length ∧ i = .int .i64 k ∧ wr.ownsRow w.heap.size 42 5 v k (cellsOf (L.take k)) ∧ Below w.heap.size w wr)
    (fun _ i _ => L.length - (intOf i).toNat)
  case atStart => exact ⟨0, Nat.zero_le _, rfl, World.ownsRow_nil _ _ _ _, Below.refl _ _⟩
  case round =>
    obtain ⟨k, hk, rfl, hown, hbl⟩ := hrel
    by_cases hlt : k < L.length
    · obtain ⟨b, off, rfl, hb, hc0, hc1, hc2, hc3, hc4⟩ := hT.row hlt
      obtain ⟨x, hx⟩ : ∃ x, rowAt L k = x := ⟨_, rfl⟩
      rw [hx] at hc0 hc1 hc2 hc3 hc4
      have HX := Lib.hid hx
      clear hx
      obtain ⟨x0, x1, x2, x3, x4⟩ := x
      dsimp only at hc0 hc1 hc2 hc3 hc4
      have q0 := (hbl.cell (p := ⟨b, off + k * 5, none⟩) hb).trans hc0
      have q1 := (hbl.cell (p := ⟨b, off + k * 5 + 1, none⟩) hb).trans hc1
      have q2 := (hbl.cell (p := ⟨b, off + k * 5 + 2, none⟩) hb).trans hc2
      have q3 := (hbl.cell (p := ⟨b, off + k * 5 + 3, none⟩) hb).trans hc3
      have q4 := (hbl.cell (p := ⟨b, off + k * 5 + 4, none⟩) hb).trans hc4
      clear hc0 hc1 hc2 hc3 hc4 hT
      have hsz := hbl.size
      go_wp2_with (at_builtin; refine wpList_append_own _ rfl _ _ 33 rfl w.heap.size 42 i0 _ 5 20 Tryd.underlying33 hi hz0 hz1 hz2 rfl (by decide) _ _ _ rfl ((hown.alloc _).alloc _) ⟨wr.heap.size + 1, 0, none⟩ 1 1 (rowCells (x0, x1, x2, x3, x4)) rfl rfl ?c1 ?c2 ?c3 ?c4 ?c5 ?_)
      case c1 => exact new_cells _ (x0, x1, x2, x3, x4) 42 (by simp)
      case c2 => exact rowCells_one _
      case c3 => unfold maxLen; omega
      case c4 => omega
      case c5 => simp; omega
      intro v' w1 hown' hgrow _
      have hrel : w1.ownsRow w.heap.size 42 5 v' (k + 1) (cellsOf (L.take (k + 1))) := by
        rw [take_snoc hlt, HX.out, cellsOf_snoc]; exact hown'
      have hbl1 : Below w.heap.size w w1 := ((hbl.alloc hsz _).alloc (by simp; omega) _).grown hgrow (by simp; omega) (fun g hg => (hown.lt g hg).1)
      clear hown' hgrow hown hbl q0 q1 q2 q3 q4
      go_wp2
      go_roundw
      case rel => exact ⟨k + 1, by omega, by go_num, hrel, hbl1⟩
      case measure => simp [intOf]; omega
    · obtain rfl : k = L.length := by omega
      rw [List.take_of_length_le (Nat.le_refl _)] at hown
      have HO := Lib.hid hown
      have HB := Lib.hid hbl
      clear hown hbl hT
      go_wp2
      go_ret
      exact ⟨_, rfl, HO.out, HB.out⟩

theorem grow_any (n : Nat) (w : World) (hn : n * 20 ≤ 140737488355328) :
    Calls Tryd.prog 52 #[.slice none 0 0, .int .i64 n] w fun e w' => ∃ v, e = .returned v ∧ w'.ownsRow w.heap.size 42 5 v 0 [] ∧ Below w.heap.size w w' := by
  obtain ⟨i0, hi, hz0, hz1, hz2⟩ := info_parts info42
  rcases Nat.eq_zero_or_pos n with rfl | hp
  · have h := Any8.slices_Grow_room Tryd.growL none 0 0 0 w (Nat.le_refl _) (by omega) (by omega) (by omega)
    change Calls Tryd.prog 52 _ _ _ at h
    refine h.mono ?_
    rintro e w' ⟨rfl, rfl⟩
    exact ⟨_, rfl, World.ownsRow_nil _ _ _ _, Below.refl _ _⟩
  · have h := Any8.slices_Grow_grow Tryd.growL i0 _ hi hz0 (by rw [hz1]; decide) none 0 0 n [] w (Nat.le_refl _) (by omega) (by rw [hz2]; omega) (by omega) (by simp) (fun _ => rfl) (fun a ha => by cases ha)
    change Calls Tryd.prog 52 _ _ _ at h
    refine h.mono ?_
    rintro e w' ⟨rfl, rfl⟩
    refine ⟨_, rfl, ⟨rfl, .inr ⟨w.heap.size, _, _, rfl, Nat.le_refl _, heap_alloc_new w.drew _, Nat.zero_le _, grownCap_le_maxLen _ _ _ _ (by unfold maxLen; omega), ?_, rfl⟩⟩, ((Below.refl w.heap.size w).drew).alloc (Nat.le_refl _) _⟩
    have hge := grownCap_ge w (0 + n) 0 (Tryd.growL_ren.t 25)
    simp only [Array.size_append, size_zeroCells]
    generalize grownCap w (0 + n) 0 (Tryd.growL_ren.t 25) = cp at *
    simp [Value.cells]
    omega

def cat (L M : List Rw) : Nat → List Rw
  | 0 => []
  | 1 => L
  | _ => L ++ M

set_option maxHeartbeats 4000000 in
set_option maxRecDepth 1000000 in
theorem concat_any (L M : List Rw) (A B : Option Addr) (c1 c2 b : Nat) (w : World) (hA : RowsAt w A L) (hB : RowsAt w B M) (hA0 : A = none → c1 = 0) (hB0 : B = none → c2 = 0) (hb : b < w.heap.size)
    (hc0 : w.cell? ⟨b, 0, none⟩ = some (.slice A L.length c1)) (hc1 : w.cell? ⟨b, 1, none⟩ = some (.slice B M.length c2)) (hlen : (L.length + M.length) * 20 ≤ 140737488355328) :
    Calls Tryd.prog 39 #[.slice (some ⟨b, 0, none⟩) 2 2] w fun e w' => ∃ v, e = .returned v ∧ w'.ownsRow w.heap.size 42 5 v (L.length + M.length) (cellsOf (L ++ M)) ∧ Below w.heap.size w w' := by
  obtain ⟨i0, hi, hz0, hz1, hz2⟩ := info_parts info42
  have HA := Lib.hid hA
  have HB := Lib.hid hB
  have HA0 := Lib.hid hA0
  have HB0 := Lib.hid hB0
  have HC0 := Lib.hid hc0
  have HC1 := Lib.hid hc1
  clear hA hB hA0 hB0 hc0 hc1
  go_enter Tryd.func39, Tryd.ntmps39
  go_wp2
  go_loopw [3, 11] (fun s i wr => ∃ k : Nat, k ≤ 2 ∧ i = .int .i64 k ∧ s = .int .i64 (cat L M k).length ∧ wr = w) (fun _ i _ => 2 - (intOf i).toNat)
  case atStart => exact ⟨0, by omega, rfl, rfl, rfl⟩
  case round =>
    obtain ⟨k, hk, rfl, rfl, rfl⟩ := hrel
    have hk3 : k = 0 ∨ k = 1 ∨ k = 2 := by omega
    rcases hk3 with rfl | rfl | rfl
    · have q0 := HC0.out
      simp only [cat, List.length_nil]
      go_wp2
      go_roundw
      case rel => exact ⟨1, by omega, by go_num, by simp, trivial⟩
      case measure => simp [intOf]
    · have q1 := HC1.out
      simp only [cat]
      go_wp2
      go_roundw
      case rel => exact ⟨2, by omega, by go_num, by simp, trivial⟩
      case measure => simp [intOf]
    · simp only [cat, List.length_append]
      have cG := Lib.hid (grow_any (L.length + M.length) wr (by omega))
      go_wp2_with fail
      refine (cG.out).mono ?_
      rintro e w1 ⟨v, rfl, ho, hb1⟩
      have HO := Lib.hid ho
      have HB1 := Lib.hid hb1
      clear ho hb1 cG
      go_wp2_with fail
      obtain ⟨wo, rfl⟩ : ∃ wo : World, wo = wr := ⟨_, rfl⟩
      go_loopw [6, 27] (fun v i wr => ∃ k : Nat, k ≤ 2 ∧ i = .int .i64 k ∧ wr.ownsRow wo.heap.size 42 5 v (cat L M k).length (cellsOf (cat L M k)) ∧ Below wo.heap.size wo wr) (fun _ i _ => 2 - (intOf i).toNat)
      case atStart => exact ⟨0, by omega, rfl, HO.out, HB1.out⟩
      case round =>
        obtain ⟨k, hk, rfl, hown, hbl⟩ := hrel
        clear HO HB1
        have hk3 : k = 0 ∨ k = 1 ∨ k = 2 := by omega
        rcases hk3 with rfl | rfl | rfl
        · simp only [cat, List.length_nil] at hown
          have q0 := (hbl.cell (p := ⟨b, 0, none⟩) hb).trans HC0.out
          have hs1 := hbl.size
          have HBL := Lib.hid hbl
          have hR := HA.out.below hbl (Nat.le_refl _)
          rcases A with _ | ad
          · obtain rfl := HA0.out rfl
            have hL : L = [] := by
              rcases hR with h | ⟨_, _, h, _⟩
              · exact h
              · cases h
            have HL := Lib.hid hL
            rw [hL, List.length_nil] at q0
            clear hR hbl hL
            go_wp2_with (at_builtin; refine wpList_append_own_none rfl _ _ 33 rfl wo.heap.size 42 i0 5 Tryd.underlying33 hi _ _ _ rfl hown rfl ?_)
            have HO1 := Lib.hid hown
            clear hown
            go_wp2
            go_roundw
            case rel => exact ⟨1, by omega, by go_num, by simp only [cat]; rw [HL.out]; exact HO1.out, HBL.out⟩
            case measure => simp [intOf]
          · have HCL := Lib.hid hR.cells
            have HONE := Lib.hid (cellsOf_one L)
            have HCN := Lib.hid (cellsOf_length L)
            clear hR hbl
            go_wp2_with (at_builtin; refine wpList_append_own _ rfl _ _ 33 rfl wo.heap.size 42 i0 _ 5 20 Tryd.underlying33 hi hz0 hz1 hz2 rfl (by decide) _ _ _ rfl hown ad L.length c1 (cellsOf L) rfl HCN.out HCL.out HONE.out ?p3 ?p4 ?p5 ?_)
            case p3 => unfold maxLen; omega
            case p4 => omega
            case p5 => exact hs1
            intro v' w2 hown' hgrow _
            have hrel : w2.ownsRow wo.heap.size 42 5 v' (cat L M 1).length (cellsOf (cat L M 1)) := by
              simpa [cat, show cellsOf [] = [] from rfl] using hown'
            have hbl2 : Below wo.heap.size wo w2 := HBL.out.grown hgrow hs1 (fun g hg => (hown.lt g hg).1)
            have HO4 := Lib.hid hrel
            have HB4 := Lib.hid hbl2
            clear hown' hgrow hown hrel hbl2
            go_wp2
            go_roundw
            case rel => exact ⟨1, by omega, by go_num, HO4.out, HB4.out⟩
            case measure => simp [intOf]
        · simp only [cat] at hown
          have q1 := (hbl.cell (p := ⟨b, 1, none⟩) hb).trans HC1.out
          have hs1 := hbl.size
          have HBL := Lib.hid hbl
          have hR := HB.out.below hbl (Nat.le_refl _)
          rcases B with _ | ad
          · obtain rfl := HB0.out rfl
            have hL : M = [] := by
              rcases hR with h | ⟨_, _, h, _⟩
              · exact h
              · cases h
            have HL := Lib.hid hL
            rw [hL, List.length_nil] at q1
            clear hR hbl hL
            go_wp2_with (at_builtin; refine wpList_append_own_none rfl _ _ 33 rfl wo.heap.size 42 i0 5 Tryd.underlying33 hi _ _ _ rfl hown rfl ?_)
            have HO1 := Lib.hid hown
            clear hown
            go_wp2
            go_roundw
            case rel => exact ⟨2, by omega, by go_num, by simp only [cat]; rw [HL.out, List.append_nil]; exact HO1.out, HBL.out⟩
            case measure => simp [intOf]
          · have HCL := Lib.hid hR.cells
            have HONE := Lib.hid (cellsOf_one M)
            have HCN := Lib.hid (cellsOf_length M)
            clear hR hbl
            go_wp2_with (at_builtin; refine wpList_append_own _ rfl _ _ 33 rfl wo.heap.size 42 i0 _ 5 20 Tryd.underlying33 hi hz0 hz1 hz2 rfl (by decide) _ _ _ rfl hown ad M.length c2 (cellsOf M) rfl HCN.out HCL.out HONE.out ?q3 ?q4 ?q5 ?_)
            case q3 => unfold maxLen; omega
            case q4 => omega
            case q5 => exact hs1
            intro v' w2 hown' hgrow _
            have hrel : w2.ownsRow wo.heap.size 42 5 v' (cat L M 2).length (cellsOf (cat L M 2)) := by
              simp only [cat]; rw [cellsOf_append, List.length_append]; exact hown'
            have hbl2 : Below wo.heap.size wo w2 := HBL.out.grown hgrow hs1 (fun g hg => (hown.lt g hg).1)
            have HO4 := Lib.hid hrel
            have HB4 := Lib.hid hbl2
            clear hown' hgrow hown hrel hbl2
            go_wp2
            go_roundw
            case rel => exact ⟨2, by omega, by go_num, HO4.out, HB4.out⟩
            case measure => simp [intOf]
        · have HO := Lib.hid hown
          have HBL := Lib.hid hbl
          clear hown hbl
          go_wp2
          go_ret
          exact ⟨_, rfl, by have h := HO.out; simp only [cat, List.length_append] at h; exact h, HBL.out⟩
end Go.Proofs.YtdabmoekhobgiaaDoor
