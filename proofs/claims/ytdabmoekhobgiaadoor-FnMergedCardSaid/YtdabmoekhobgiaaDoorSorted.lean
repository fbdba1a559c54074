/-
  Contract of laws.sorted: the same rows, by their first numbers, in new memory of the call's own: slices.SortFunc by the shelf's contract. Conditions: the list lies in memory, its first numbers are of 32 bits, and it is short enough to be copied.
-/
import Derived.Test.YtdabmoekhobgiaaDoorClone
import Derived.Test.YtdabmoekhobgiaaDoorSortL
import Derived.Shelf.SlSortCmp.NoneTotal
namespace Go.Proofs.YtdabmoekhobgiaaDoor
open Go.Shelf Go.RowKit Go.Lib Go.Sort

def encS (x : Rw) : List Value := rowCells (x.1 % 4294967296, x.2)
def cfS (x y : Rw) : Int := ((x.1 % 4294967296 : Nat) : Int) - ((y.1 % 4294967296 : Nat) : Int)
theorem encS_of {x : Rw} (h : x.1 < 4294967296) : encS x = rowCells x := by unfold encS; rw [Nat.mod_eq_of_lt h]
theorem ltS (x y : Rw) : ltOf cfS x y = decide (x.1 % 4294967296 < y.1 % 4294967296) := by
  unfold ltOf cfS
  by_cases h : x.1 % 4294967296 < y.1 % 4294967296
  · rw [decide_eq_true h, decide_eq_true (by omega)]
  · rw [decide_eq_false h, decide_eq_false (by omega)]
theorem swoS : SWO (ltOf cfS) where
  irrefl x := by rw [ltS]; simp
  trans x y z h1 h2 := by rw [ltS] at *; simp at *; omega
  ntrans x y z h1 h2 := by rw [ltS] at *; simp at *; omega

set_option maxHeartbeats 1000000 in
set_option maxRecDepth 1000000 in
theorem closure51 (x y : Rw) (W : World) : Calls Tryd.prog 51 #[.agg (encS x).toArray, .agg (encS y).toArray] W fun e w' => e = .returned (.int .i64 (cfS x y)) ∧ ∃ q os', w' = grow (W.drewN q) os' := by
  have hx : x.1 % 4294967296 < 4294967296 := Nat.mod_lt _ (by omega)
  have hy : y.1 % 4294967296 < 4294967296 := Nat.mod_lt _ (by omega)
  unfold cfS encS rowCells
  generalize x.1 % 4294967296 = a at *
  generalize y.1 % 4294967296 = b at *
  obtain ⟨_, x1, x2, x3, x4⟩ := x
  obtain ⟨_, y1, y2, y3, y4⟩ := y
  dsimp only
  have w1 : IntKind.i64.wrap (a : Int) = a := by simp [IntKind.wrap, IntKind.bits, IntKind.signed]; omega
  have w2 : IntKind.i64.wrap (b : Int) = b := by simp [IntKind.wrap, IntKind.bits, IntKind.signed]; omega
  have w3 : IntKind.i64.wrap ((a : Int) - b) = a - b := by simp [IntKind.wrap, IntKind.bits, IntKind.signed]; omega
  clear hx hy
  go_enter Tryd.func51, Tryd.ntmps51
  go_wp2
  go_ret
  exact ⟨rfl, 0, _, by rw [alloc_eq_grow, alloc_eq_grow, grow_grow]; rfl⟩

theorem cmpLays51 (blk off size : Nat) (w : World) : CmpLays Tryd.prog 51 #[] encS 5 cfS blk off size w :=
  fun _ _ _ _ x y => closure51 x y _

/-- Ascending by the first numbers. -/
def ByLo (L : List Rw) : Prop := ∀ i j, i < j → j < L.length → (rowAt L i).1 ≤ (rowAt L j).1

theorem toArray_get {L : List Rw} {i : Nat} (h : i < L.length) : L.toArray[i]! = rowAt L i := by
  rw [getElem!_pos _ i (by simpa using h)]
  simp [rowAt, h]

set_option maxHeartbeats 1000000 in
theorem sort_any (L : List Rw) (hlo : ∀ x ∈ L, x.1 < 4294967296) (base : Nat) (v : Value) (w : World) (ho : w.ownsRow base 42 5 v L.length (cellsOf L)) (hlen : L.length * 20 ≤ 140737488355328) :
    Calls Tryd.prog 50 #[v, .func (.func 51) #[] #[]] w fun e w' => e = .returned (.tuple #[]) ∧ ∃ L' A cap, v = .slice A L.length cap ∧ L'.Perm L ∧ ByLo L' ∧ RowsAt w' A L' ∧ Below base w w' := by
  rcases ho.2 with ⟨rfl, h0⟩ | ⟨g, cap, cur, rfl, hg, hh, hc, hm, hs, ht⟩
  · have hL : L = [] := List.eq_nil_of_length_eq_zero h0
    subst hL
    have h := AnyF.slices_SortFunc_none (P := Tryd.prog) (ρ := Tryd.sortL_ren) Tryd.sortL none 0 (.func (.func 51) #[] #[]) w
    change Calls Tryd.prog 50 _ _ _ at h
    refine h.mono ?_
    rintro e w' ⟨rfl, rfl⟩
    exact ⟨rfl, [], none, 0, rfl, .refl _, fun i j _ h => by simp at h, .inl rfl, Below.refl _ _⟩
  · have hlt : g < w.heap.size := by
      rcases Nat.lt_or_ge g w.heap.size with hlt | hge
      · exact hlt
      · rw [Array.getElem?_eq_none hge] at hh; cases hh
    have hH : HoldsK encS 5 w g 0 L.toArray := by
      intro j hj
      rw [size_flatK] at hj
      have hjl : j < L.length * 5 := by simpa using hj
      have hi : j / 5 < L.length := by omega
      rw [get_flatK _ _ _ _ hj, toArray_get hi, encS_of (hlo _ (List.mem_of_getElem? (rowAt_lt hi)))]
      refine ⟨?_, ?_⟩
      · rw [Nat.zero_add, ho.cellAt j (by omega)]
        have h5 : j = j / 5 * 5 + j % 5 := by omega
        have hm5 : j % 5 < 5 := Nat.mod_lt _ (by omega)
        conv => lhs; rw [h5]
        rw [cellsOf_at L (j / 5) (j % 5) _ (rowAt_lt hi) hm5, getElem!_pos _ _ (by rw [rowCells_length]; exact hm5), List.getElem?_eq_getElem (by rw [rowCells_length]; exact hm5)]
        rfl
      · unfold World.frozen?
        simp only [hh]
        simp
    have hln : L.toArray.size = L.length := by simp
    have eg : ∀ args w, (callFunc 51 args).run Tryd.prog w = .ok (.enter 51 args) w := enters_of Tryd.func51 (by kernel_rfl) rfl
    have h := AnyQ.slices_SortFunc Tryd.sortL 5 Tryd.isAgg42 Tryd.sizeOf42 encS (fun _ => rfl) (fun x => rowCells_one _) cfS swoS 51 #[] g 0 cap L.toArray w eg (cmpLays51 g 0 _ w) hH hlt (by rw [hln]; omega)
    change Calls Tryd.prog 50 _ _ _ at h
    rw [hln] at h
    refine h.mono ?_
    rintro e w' ⟨rfl, d', n, os, hp, hsrt, rfl⟩
    obtain ⟨hsz, _, hperm⟩ := hp
    have hperm' : d'.toList.Perm L := by
      have e1 : (d'.extract 0 L.length) = d' := by
        rw [← hln, ← hsz]; exact Array.extract_size
      have e2 : (L.toArray.extract 0 L.length) = L.toArray := by
        conv => lhs; rw [← hln]
        exact Array.extract_size
      rw [e1, e2] at hperm
      simpa using hperm
    have hll : d'.toList.length = L.length := hperm'.length_eq
    have hd : ∀ i, i < L.length → d'[i]! = rowAt d'.toList i := fun i hi => by
      have := toArray_get (L := d'.toList) (i := i) (by omega)
      simpa using this
    have hlo' : ∀ i, i < L.length → (rowAt d'.toList i).1 < 4294967296 := fun i hi =>
      hlo _ (hperm'.mem_iff.1 (List.mem_of_getElem? (rowAt_lt (by omega))))
    refine ⟨rfl, d'.toList, some ⟨g, 0, none⟩, cap, rfl, hperm', ?_, ?_, ?_⟩
    · intro i j hij hj
      have h1 := hsrt i j (Nat.zero_le _) hij (by omega)
      rw [ltS, hd i (by omega), hd j (by omega), Nat.mod_eq_of_lt (hlo' i (by omega)), Nat.mod_eq_of_lt (hlo' j (by omega))] at h1
      simpa using h1
    · have hK := holdsK_sortWorldK_c encS 5 w g 0 L.toArray d' n os hH hlt (by rw [hsz])
      refine .inr ⟨g, 0, rfl, Nat.lt_of_lt_of_le hlt (size_sortWorldK_c _ _ _ _ _ _ _ _), fun i hi => ?_⟩
      have hc := fun c hc => (hK.cell (i := i) (c := c) (by rw [hsz, hln]; omega) hc).1
      rw [hd i (by omega), encS_of (hlo' i (by omega))] at hc
      exact ⟨by simpa [rowCells] using hc 0 (by omega), by simpa [rowCells] using hc 1 (by omega), by simpa [rowCells] using hc 2 (by omega), by simpa [rowCells] using hc 3 (by omega), by simpa [rowCells] using hc 4 (by omega)⟩
    · refine ⟨rfl, rfl, rfl, size_sortWorldK_c _ _ _ _ _ _ _ _, fun k hk => ?_⟩
      have hkg : k < w.heap.size := by omega
      unfold sortWorldK putRowK putRow mapBlock grow Sort.ahead
      dsimp only
      rw [Array.getElem?_append_left (by simpa using hkg), Array.getElem?_modify, if_neg (by omega)]

set_option maxHeartbeats 1000000 in
set_option maxRecDepth 1000000 in
theorem sorted_any (L : List Rw) (A : Option Addr) (cap : Nat) (w : World) (hT : RowsAt w A L) (hlo : ∀ x ∈ L, x.1 < 4294967296) (hlen : L.length * 20 ≤ 140737488355328) :
    Calls Tryd.prog 37 #[.slice A L.length cap] w fun e w' => ∃ L' A' cap', e = .returned (.slice A' L'.length cap') ∧ L'.Perm L ∧ ByLo L' ∧ RowsAt w' A' L' ∧ Below w.heap.size w w' := by
  have cC := Lib.hid (cloneR_any L A cap w hT hlen)
  have hL := Lib.hid hlo
  have hN := Lib.hid hlen
  clear hT hlo hlen
  go_enter Tryd.func37, Tryd.ntmps37
  go_wp2_with fail
  refine cC.out.mono ?_
  rintro e w1 ⟨v, rfl, ho, hb⟩
  have HO := Lib.hid ho
  have HB := Lib.hid hb
  clear ho hb cC
  go_wp2_with fail
  refine (sort_any L hL.out w.heap.size v w1 HO.out hN.out).mono ?_
  rintro e w2 ⟨rfl, L', A', cap', hv, hp, hs, hT', hb2⟩
  subst hv
  have H := Lib.hid (⟨hp, hs, hT', HB.out.trans hb2⟩ : L'.Perm L ∧ ByLo L' ∧ RowsAt w2 A' L' ∧ Below w.heap.size w w2)
  have hle := Lib.hid hp.length_eq
  clear hp hs hT' hb2 HO HB hL
  go_wp2
  go_ret
  obtain ⟨h1, h2, h3, h4⟩ := H.out
  exact ⟨L', A', cap', by rw [hle.out]; rfl, h1, h2, h3, h4⟩
end Go.Proofs.YtdabmoekhobgiaaDoor
