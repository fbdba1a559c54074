/-
  Lists of rows in memory: what a slice of rows holds is kept by whatever leaves old blocks alone; a row that a call has appended to reads as its rows. Conditions: none.
-/
import Derived.Test.YtdabmoekhobgiaaDoorCase
namespace Go.Proofs.YtdabmoekhobgiaaDoor
open Go.RowKit

def rowCells (x : Rw) : List Value := [.int .u32 x.1, .int .u32 x.2.1, .int .i32 x.2.2.1, .int .i32 x.2.2.2.1, .int .i32 x.2.2.2.2]
def cellsOf (L : List Rw) : List Value := L.flatMap rowCells
theorem rowCells_length (x : Rw) : (rowCells x).length = 5 := rfl
theorem cellsOf_length (L : List Rw) : (cellsOf L).length = L.length * 5 := by
  unfold cellsOf
  induction L with
  | nil => rfl
  | cons x L ih => rw [List.flatMap_cons, List.length_append, ih, rowCells_length, List.length_cons]; omega
theorem cellsOf_at : ∀ (L : List Rw) (i j : Nat) (x : Rw), L[i]? = some x → j < 5 → (cellsOf L)[i * 5 + j]? = (rowCells x)[j]?
  | [], _, _, _, h, _ => by simp at h
  | y :: L, 0, j, x, h, hj => by
    simp at h; subst h
    show (rowCells y ++ cellsOf L)[0 * 5 + j]? = _
    rw [List.getElem?_append_left (by rw [rowCells_length]; omega)]
    simp
  | y :: L, i + 1, j, x, h, hj => by
    show (rowCells y ++ cellsOf L)[(i + 1) * 5 + j]? = _
    rw [List.getElem?_append_right (by rw [rowCells_length]; omega), rowCells_length, show (i + 1) * 5 + j - 5 = i * 5 + j by omega]
    exact cellsOf_at L i j x (by simpa using h) hj
theorem cellsOf_snoc (L : List Rw) (x : Rw) : cellsOf (L ++ [x]) = cellsOf L ++ rowCells x := by
  unfold cellsOf; rw [List.flatMap_append]; simp
theorem cellsOf_append (L M : List Rw) : cellsOf (L ++ M) = cellsOf L ++ cellsOf M := by
  unfold cellsOf; rw [List.flatMap_append]
theorem take_snoc {L : List Rw} {k : Nat} (h : k < L.length) : L.take (k + 1) = L.take k ++ [rowAt L k] := by
  rw [List.take_succ_eq_append_getElem h, rowAt_some (List.getElem?_eq_getElem h)]
theorem cellsOf_one (L : List Rw) : ∀ u ∈ cellsOf L, u.oneCell' = true := by
  intro u hu
  obtain ⟨x, _, hx⟩ := List.mem_flatMap.1 hu
  simp only [rowCells, List.mem_cons, List.not_mem_nil, or_false] at hx
  rcases hx with rfl | rfl | rfl | rfl | rfl <;> rfl
theorem rowCells_one (x : Rw) : ∀ u ∈ rowCells x, u.oneCell' = true := by
  intro u hx
  simp only [rowCells, List.mem_cons, List.not_mem_nil, or_false] at hx
  rcases hx with rfl | rfl | rfl | rfl | rfl <;> rfl

theorem RowIs.keep {w w' : World} {b o : Nat} {x : Rw} (h : RowIs w b o x) (hk : ∀ j, w'.cell? ⟨b, j, none⟩ = w.cell? ⟨b, j, none⟩) : RowIs w' b o x :=
  ⟨(hk _).trans h.1, (hk _).trans h.2.1, (hk _).trans h.2.2.1, (hk _).trans h.2.2.2.1, (hk _).trans h.2.2.2.2⟩
theorem Tab.keep {w w' : World} {b off : Nat} {L : List Rw} (h : Tab w b off L) (hk : ∀ j, w'.cell? ⟨b, j, none⟩ = w.cell? ⟨b, j, none⟩) : Tab w' b off L := fun i hi => (h i hi).keep hk
theorem RowsAt.below {w w' : World} {A : Option Addr} {L : List Rw} (h : RowsAt w A L) {B : Nat} (hb : Below B w w') (hB : w.heap.size ≤ B) : RowsAt w' A L := by
  rcases h with h | ⟨b, off, hA, hlt, hT⟩
  · exact .inl h
  · exact .inr ⟨b, off, hA, Nat.lt_of_lt_of_le hlt hb.size, hT.keep fun j => hb.cell (p := ⟨b, j, none⟩) (Nat.lt_of_lt_of_le hlt hB)⟩
theorem CaseV.below {w w' : World} (h : CaseV w) {B : Nat} (hb : Below B w w') (hB : w.heap.size ≤ B) : CaseV w' := by
  obtain ⟨R, oR, cap, hg, h0, hR, hT⟩ := h
  exact ⟨R, oR, cap, (hb.cell (p := ⟨0, 0, none⟩) (Nat.lt_of_lt_of_le h0 hB)).trans hg, Nat.lt_of_lt_of_le h0 hb.size, Nat.lt_of_lt_of_le hR hb.size, hT.keep fun j => hb.cell (p := ⟨R, j, none⟩) (Nat.lt_of_lt_of_le hR hB)⟩
theorem RowsAt.drewN {w : World} {A : Option Addr} {L : List Rw} (h : RowsAt w A L) (q : Nat) : RowsAt (w.drewN q) A L := h
theorem below_drewN {B : Nat} {a w : World} (h : Below B a w) (n : Nat) : Below B a (w.drewN n) := ⟨h.os, h.tape, h.output, h.size, h.block⟩
theorem RowsAt.nil {w : World} {A : Option Addr} : RowsAt w A [] := .inl rfl
/-- A row of the slice, cell for cell. -/
theorem RowsAt.row {w : World} {A : Option Addr} {L : List Rw} (h : RowsAt w A L) {k : Nat} (hk : k < L.length) : ∃ b off, A = some ⟨b, off, none⟩ ∧ b < w.heap.size ∧ RowIs w b (off + k * 5) (rowAt L k) := by
  rcases h with rfl | ⟨b, off, hA, hb, hT⟩
  · simp at hk
  · exact ⟨b, off, hA, hb, hT k hk⟩
/-- What a call owns reads as its rows. -/
theorem own_rows {w : World} {base : Nat} {e : TypeId} {v : Value} {n : Nat} {L : List Rw} (h : w.ownsRow base e 5 v n (cellsOf L)) :
    n = L.length ∧ ∃ A cap, v = .slice A n cap ∧ RowsAt w A L ∧ n ≤ maxLen := by
  have hn : n = L.length := by have := h.1; rw [cellsOf_length] at this; omega
  refine ⟨hn, ?_⟩
  subst hn
  rcases h.2 with ⟨rfl, h0⟩ | ⟨g, cap, cur, rfl, hg, hh, hc, hm, hs, ht⟩
  · have hL : L = [] := List.eq_nil_of_length_eq_zero h0
    subst hL
    exact ⟨none, 0, rfl, .inl rfl, by simp [maxLen]⟩
  · refine ⟨some ⟨g, 0, none⟩, cap, rfl, .inr ⟨g, 0, rfl, ?_, fun i hi => ?_⟩, by omega⟩
    · rcases Nat.lt_or_ge g w.heap.size with hlt | hge
      · exact hlt
      · rw [Array.getElem?_eq_none hge] at hh; cases hh
    · have hx := rowAt_lt hi
      have hat : ∀ j, j < 5 → w.cell? ⟨g, i * 5 + j, none⟩ = (rowCells (rowAt L i))[j]? := fun j hj => by
        rw [h.cellAt (i * 5 + j) (by omega), cellsOf_at L i j _ hx hj]
      exact ⟨by simpa [rowCells] using hat 0 (by omega), by simpa [rowCells] using hat 1 (by omega), by simpa [rowCells] using hat 2 (by omega), by simpa [rowCells] using hat 3 (by omega), by simpa [rowCells] using hat 4 (by omega)⟩
theorem new_cells (w : World) (x : Rw) (t : TypeId) {n : Nat} (hn : n = w.heap.size) :
    ∀ j u, (rowCells x)[j]? = some u → (w.alloc (.cells #[.int .u32 x.1, .int .u32 x.2.1, .int .i32 x.2.2.1, .int .i32 x.2.2.2.1, .int .i32 x.2.2.2.2] t)).cell? ((⟨n, 0, none⟩ : Addr).add j) = some u := by
  subst hn
  intro j u hu
  have hj : j < 5 := by
    have := (List.getElem?_eq_some_iff.1 hu).1
    rwa [rowCells_length] at this
  rw [add_plain, Nat.zero_add, cell_of_row _ _ _ _ t (0, 0) (heap_alloc_new w _)]
  match j, hj with
  | 0, _ => exact hu
  | 1, _ => exact hu
  | 2, _ => exact hu
  | 3, _ => exact hu
  | 4, _ => exact hu
/-- A new block of rows reads as its rows. -/
theorem rows_new (w : World) (L : List Rw) (t : TypeId) (cs : Array Value) (h : cs.toList = cellsOf L) : RowsAt (w.alloc (.cells cs t)) (some ⟨w.heap.size, 0, none⟩) L := by
  refine .inr ⟨w.heap.size, 0, rfl, by simp, fun i hi => ?_⟩
  have hx := rowAt_lt hi
  have hat : ∀ j, j < 5 → (w.alloc (.cells cs t)).cell? ⟨w.heap.size, i * 5 + j, none⟩ = (rowCells (rowAt L i))[j]? := fun j hj => by
    rw [cell_of_row _ _ _ _ t (0, 0) (heap_alloc_new w _), ← Array.getElem?_toList, h, cellsOf_at L i j _ hx hj]
  exact ⟨by simpa [rowCells] using hat 0 (by omega), by simpa [rowCells] using hat 1 (by omega), by simpa [rowCells] using hat 2 (by omega), by simpa [rowCells] using hat 3 (by omega), by simpa [rowCells] using hat 4 (by omega)⟩

/-- A slice of ints in memory: nothing is asked of the address of no ints. -/
def IntsAt (w : World) (A : Option Addr) (zs : List Int) : Prop :=
  zs = [] ∨ ∃ b off, A = some ⟨b, off, none⟩ ∧ b < w.heap.size ∧ ∀ i, i < zs.length → w.cell? ⟨b, off + i, none⟩ = some (.int .i64 (zs.getD i 0))
theorem IntsAt.below {w w' : World} {A : Option Addr} {zs : List Int} (h : IntsAt w A zs) {B : Nat} (hb : Below B w w') (hB : w.heap.size ≤ B) : IntsAt w' A zs := by
  rcases h with h | ⟨b, off, hA, hlt, hT⟩
  · exact .inl h
  · exact .inr ⟨b, off, hA, Nat.lt_of_lt_of_le hlt hb.size, fun j hj => (hb.cell (p := ⟨b, off + j, none⟩) (Nat.lt_of_lt_of_le hlt hB)).trans (hT j hj)⟩
theorem IntsAt.at_ {w : World} {A : Option Addr} {zs : List Int} (h : IntsAt w A zs) {k : Nat} (hk : k < zs.length) : ∃ b off, A = some ⟨b, off, none⟩ ∧ b < w.heap.size ∧ w.cell? ⟨b, off + k, none⟩ = some (.int .i64 (zs.getD k 0)) := by
  rcases h with rfl | ⟨b, off, hA, hb, hT⟩
  · simp at hk
  · exact ⟨b, off, hA, hb, hT k hk⟩

end Go.Proofs.YtdabmoekhobgiaaDoor
