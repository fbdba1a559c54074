/-
  Contracts of slices.Clone at lists of case ranges (of both packages): a list of the same rows in new memory of the call's own. Conditions: the list lies in memory and is short enough to be copied.
-/
import Derived.Test.YtdabmoekhobgiaaDoorLists
import Derived.WalkSpells
namespace Go.Proofs.YtdabmoekhobgiaaDoor
open Go.RowKit

theorem RowsAt.cells {w : World} {ad : Addr} {L : List Rw} (h : RowsAt w (some ad) L) : ∀ j u, (cellsOf L)[j]? = some u → w.cell? (ad.add j) = some u := by
  rcases h with rfl | ⟨b, off, e, hb, hT⟩
  · intro j u hu
    simp [cellsOf] at hu
  · cases e
    intro j u hu
    have hj : j < L.length * 5 := by
      have := (List.getElem?_eq_some_iff.1 hu).1
      rwa [cellsOf_length] at this
    have hi : j / 5 < L.length := by omega
    have h5 : j = j / 5 * 5 + j % 5 := by omega
    have hm : j % 5 < 5 := Nat.mod_lt _ (by omega)
    rw [h5, cellsOf_at L (j / 5) (j % 5) _ (rowAt_lt hi) hm] at hu
    obtain ⟨c0, c1, c2, c3, c4⟩ := hT (j / 5) hi
    rw [add_plain, h5, ← Nat.add_assoc]
    generalize j / 5 = i at *
    match hk : j % 5, hm with
    | 0, _ => rw [hk] at hu; rw [← hu]; simpa [rowCells] using c0
    | 1, _ => rw [hk] at hu; rw [← hu]; simpa [rowCells] using c1
    | 2, _ => rw [hk] at hu; rw [← hu]; simpa [rowCells] using c2
    | 3, _ => rw [hk] at hu; rw [← hu]; simpa [rowCells] using c3
    | 4, _ => rw [hk] at hu; rw [← hu]; simpa [rowCells] using c4

set_option maxHeartbeats 1000000 in
set_option maxRecDepth 1000000 in
theorem cloneC_any (L : List Rw) (A : Option Addr) (cap : Nat) (w : World) (hT : RowsAt w A L) (hlen : L.length * 20 ≤ 140737488355328) :
    Calls Tryd.prog 24 #[.slice A L.length cap] w fun e w' => ∃ v, e = .returned v ∧ w'.ownsRow w.heap.size 26 5 v L.length (cellsOf L) ∧ Below w.heap.size w w' := by
  have hq := fun (w : World) (a : Option Addr) (n c : Nat) => Lib.run_eql_slice_nil (P := Tryd.prog) w 27 26 a n c 0 0 Tryd.underlying27
  rcases A with _ | ad
  · have hL : L = [] := by
      rcases hT with h | ⟨b, off, h, _⟩
      · exact h
      · cases h
    subst hL
    clear hT hlen
    go_enter Tryd.func24, Tryd.ntmps24
    go_wp2
    go_ret
    exact ⟨_, rfl, World.ownsRow_nil _ _ _ _, Below.refl _ _⟩
  · obtain ⟨i0, hi, hz0, hz1, hz2⟩ := info_parts info26
    have hcells := Lib.hid hT.cells
    have hone := Lib.hid (cellsOf_one L)
    have hcl := Lib.hid (cellsOf_length L)
    clear hT
    go_enter Tryd.func24, Tryd.ntmps24
    go_wp2_with (at_builtin; refine wpList_append_own _ rfl _ _ 27 rfl w.heap.size 26 i0 _ 5 20 Tryd.underlying27 hi hz0 hz1 hz2 rfl (by decide) _ 0 [] rfl (World.ownsRow_lit w #[] 0 (Nat.le_refl _) (by simp [maxLen]) rfl) ad L.length cap (cellsOf L) rfl hcl.out ?c1 hone.out ?c3 ?c4 ?c5 ?_)
    case c1 =>
      intro j u hu
      have h := hcells.out j u hu
      rw [World.cell?_alloc_lt]
      · exact h
      · rcases Nat.lt_or_ge (ad.add j).block w.heap.size with hlt | hge
        · exact hlt
        · unfold World.cell? at h
          rw [Array.getElem?_eq_none hge] at h
          cases h
    case c3 => unfold maxLen; omega
    case c4 => omega
    case c5 => simp
    intro v' w1 hown' hgrow _
    have hbl1 : Below w.heap.size w w1 := ((Below.refl _ _).alloc (Nat.le_refl _) _).grown hgrow (by simp) (fun g hg => by simp [Value.ownBlock] at hg; omega)
    have HO := Lib.hid hown'
    have HB := Lib.hid hbl1
    clear hown' hgrow hbl1 hcells hone hcl
    go_wp2
    go_ret
    exact ⟨_, rfl, HO.out, HB.out⟩

set_option maxHeartbeats 1000000 in
set_option maxRecDepth 1000000 in
theorem cloneR_any (L : List Rw) (A : Option Addr) (cap : Nat) (w : World) (hT : RowsAt w A L) (hlen : L.length * 20 ≤ 140737488355328) :
    Calls Tryd.prog 27 #[.slice A L.length cap] w fun e w' => ∃ v, e = .returned v ∧ w'.ownsRow w.heap.size 42 5 v L.length (cellsOf L) ∧ Below w.heap.size w w' := by
  have hq := fun (w : World) (a : Option Addr) (n c : Nat) => Lib.run_eql_slice_nil (P := Tryd.prog) w 33 42 a n c 0 0 Tryd.underlying33
  rcases A with _ | ad
  · have hL : L = [] := by
      rcases hT with h | ⟨b, off, h, _⟩
      · exact h
      · cases h
    subst hL
    clear hT hlen
    go_enter Tryd.func27, Tryd.ntmps27
    go_wp2
    go_ret
    exact ⟨_, rfl, World.ownsRow_nil _ _ _ _, Below.refl _ _⟩
  · obtain ⟨i0, hi, hz0, hz1, hz2⟩ := info_parts info42
    have hcells := Lib.hid hT.cells
    have hone := Lib.hid (cellsOf_one L)
    have hcl := Lib.hid (cellsOf_length L)
    clear hT
    go_enter Tryd.func27, Tryd.ntmps27
    go_wp2_with (at_builtin; refine wpList_append_own _ rfl _ _ 33 rfl w.heap.size 42 i0 _ 5 20 Tryd.underlying33 hi hz0 hz1 hz2 rfl (by decide) _ 0 [] rfl (World.ownsRow_lit w #[] 0 (Nat.le_refl _) (by simp [maxLen]) rfl) ad L.length cap (cellsOf L) rfl hcl.out ?c1 hone.out ?c3 ?c4 ?c5 ?_)
    case c1 =>
      intro j u hu
      have h := hcells.out j u hu
      rw [World.cell?_alloc_lt]
      · exact h
      · rcases Nat.lt_or_ge (ad.add j).block w.heap.size with hlt | hge
        · exact hlt
        · unfold World.cell? at h
          rw [Array.getElem?_eq_none hge] at h
          cases h
    case c3 => unfold maxLen; omega
    case c4 => omega
    case c5 => simp
    intro v' w1 hown' hgrow _
    have hbl1 : Below w.heap.size w w1 := ((Below.refl _ _).alloc (Nat.le_refl _) _).grown hgrow (by simp) (fun g hg => by simp [Value.ownBlock] at hg; omega)
    have HO := Lib.hid hown'
    have HB := Lib.hid hbl1
    clear hown' hgrow hbl1 hcells hone hcl
    go_wp2
    go_ret
    exact ⟨_, rfl, HO.out, HB.out⟩
end Go.Proofs.YtdabmoekhobgiaaDoor
