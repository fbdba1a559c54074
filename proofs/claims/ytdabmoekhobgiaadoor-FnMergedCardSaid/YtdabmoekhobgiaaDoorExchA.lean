/-
  Setting a row of a list that the call owns; what validity gives; the plain law of deltas that change places. Conditions: the list is valid and has no range by turns.
-/
import Derived.Test.YtdabmoekhobgiaaDoorClone
import Derived.Test.YtdabmoekhobgiaaDoorAsk
import Derived.Test.YtdabmoekhobgiaaDoorSpecC
namespace Go.Proofs.YtdabmoekhobgiaaDoor
open Go.RowKit

theorem cellsOf_set3 (e0 e1 e2 : Int) : ∀ (L : List Rw) (i : Nat) (x : Rw), L[i]? = some x →
    (((cellsOf L).set (i * 5 + 2) (.int .i32 e0)).set (i * 5 + 3) (.int .i32 e1)).set (i * 5 + 4) (.int .i32 e2) = cellsOf (L.set i (x.1, x.2.1, e0, e1, e2))
  | [], _, _, h => by simp at h
  | y :: L, 0, x, h => by
    simp at h; subst h
    rfl
  | y :: L, i + 1, x, h => by
    have ih := cellsOf_set3 e0 e1 e2 L i x (by simpa using h)
    rw [show (i + 1) * 5 + 2 = i * 5 + 2 + 5 by omega, show (i + 1) * 5 + 3 = i * 5 + 3 + 5 by omega, show (i + 1) * 5 + 4 = i * 5 + 4 + 5 by omega]
    show rowCells y ++ (((cellsOf L).set (i * 5 + 2) (.int .i32 e0)).set (i * 5 + 3) (.int .i32 e1)).set (i * 5 + 4) (.int .i32 e2) = rowCells y ++ cellsOf (L.set i (x.1, x.2.1, e0, e1, e2))
    rw [ih]

/-! What validity gives. -/
theorem valid_at {L : List Rw} (h : validB L = true) {i : Nat} (hi : i < L.length) : okAt L i = true := List.all_eq_true.1 h i (List.mem_range.2 hi)
theorem valid_row {L : List Rw} (h : validB L = true) {i : Nat} (hi : i < L.length) : okRow (rowAt L i) = true := by
  have := valid_at h hi
  unfold okAt at this
  rw [Bool.and_eq_true] at this
  exact this.1
theorem okRow_bounds {x : Rw} (h : okRow x = true) : x.1 ≤ x.2.1 ∧ x.2.1 ≤ 1114111 := by
  unfold okRow at h
  simp only [Bool.and_eq_true, decide_eq_true_eq] at h
  exact ⟨h.1.1, h.1.2⟩
theorem okRow_leads {x : Rw} (h : okRow x = true) (ht : turnsB x = false) : leadsB x = true := by
  unfold okRow at h
  rw [ht] at h
  simp only [Bool.and_eq_true] at h
  exact h.2
theorem leads_dlt {x : Rw} (h : leadsB x = true) (c : Nat) : -1114111 ≤ dlt x c ∧ dlt x c ≤ 1114111 ∧ 0 ≤ (x.1 : Int) + dlt x c ∧ (x.2.1 : Int) + dlt x c ≤ 1114111 := by
  unfold leadsB at h
  simp only [Bool.and_eq_true] at h
  match c with
  | 0 => exact lead_true h.1.1
  | 1 => exact lead_true h.1.2
  | _ + 2 => exact lead_true h.2
theorem valid_srt {L : List Rw} (h : validB L = true) : Srt L := by
  refine Srt.of_next (fun i hi => (okRow_bounds (valid_row h hi)).1) (fun i hi => ?_)
  have := valid_at h hi
  unfold okAt nextB at this
  simp only [Bool.and_eq_true, Bool.or_eq_true, decide_eq_true_eq] at this
  rcases this.2 with h0 | h1
  · omega
  · simpa using h1
theorem valid_rune {L : List Rw} (h : validB L = true) : RuneOk L := fun i hi => by
  have := okRow_bounds (valid_row h hi)
  omega
theorem anyTurns_at {L : List Rw} (h : anyTurnsB L = false) {i : Nat} (hi : i < L.length) : turnsB (rowAt L i) = false := by
  have := List.any_eq_false.1 h _ (rowAt_mem hi)
  simpa using this
/-- A valid list has at most as many rows as there are code points. -/
theorem srt_length {L : List Rw} (h : Srt L) : ∀ i, i < L.length → i ≤ (rowAt L i).1
  | 0, _ => Nat.zero_le _
  | i + 1, hi => by
    have h1 := srt_length h i (by omega)
    have h2 := h.own i (by omega)
    have h3 := h.next i (i + 1) (by omega) hi
    omega
theorem valid_length {L : List Rw} (h : validB L = true) : L.length ≤ 1114112 := by
  rcases Nat.eq_zero_or_pos L.length with h0 | h0
  · omega
  · have h1 := srt_length (valid_srt h) (L.length - 1) (by omega)
    have h2 := okRow_bounds (valid_row h (show L.length - 1 < L.length by omega))
    omega

/-! The deltas change places. -/
def exch (q0 q1 q2 : Nat) (x : Rw) : Rw := (x.1, x.2.1, dlt x q0, dlt x q1, dlt x q2)
def exL (q0 q1 q2 : Nat) (L : List Rw) (k : Nat) : List Rw := (L.take k).map (exch q0 q1 q2) ++ L.drop k
theorem exL_length (q0 q1 q2 : Nat) (L : List Rw) (k : Nat) : (exL q0 q1 q2 L k).length = L.length := by
  unfold exL; simp; omega
theorem exL_zero (q0 q1 q2 : Nat) (L : List Rw) : exL q0 q1 q2 L 0 = L := by simp [exL]
theorem exL_all (q0 q1 q2 : Nat) (L : List Rw) : exL q0 q1 q2 L L.length = L.map (exch q0 q1 q2) := by simp [exL]
theorem exL_at {q0 q1 q2 : Nat} {L : List Rw} {k : Nat} (hk : k < L.length) : (exL q0 q1 q2 L k)[k]? = some (rowAt L k) := by
  unfold exL
  rw [List.getElem?_append_right (by simp; omega), List.length_map, List.length_take, Nat.min_eq_left (by omega), Nat.sub_self, List.getElem?_drop, Nat.add_zero, rowAt_lt hk]
theorem exL_succ {q0 q1 q2 : Nat} {L : List Rw} {k : Nat} (hk : k < L.length) : exL q0 q1 q2 L (k + 1) = (exL q0 q1 q2 L k).set k (exch q0 q1 q2 (rowAt L k)) := by
  unfold exL
  rw [take_snoc hk, List.map_append, List.set_append_right _ _ (by simp; omega)]
  rw [List.length_map, List.length_take, Nat.min_eq_left (by omega), Nat.sub_self, List.drop_eq_getElem_cons hk, List.append_assoc]
  rfl
theorem map_rowAt {f : Rw → Rw} {L : List Rw} {i : Nat} (hi : i < L.length) : rowAt (L.map f) i = f (rowAt L i) :=
  rowAt_some (by rw [List.getElem?_map, rowAt_lt hi]; rfl)
theorem exch_srt {q0 q1 q2 : Nat} {L : List Rw} (h : Srt L) : Srt (L.map (exch q0 q1 q2)) := by
  refine ⟨fun i hi => ?_, fun i j hij hj => ?_⟩
  · rw [List.length_map] at hi
    rw [map_rowAt hi]
    exact h.own i hi
  · rw [List.length_map] at hj
    rw [map_rowAt hj, map_rowAt (by omega)]
    exact h.next i j hij hj
theorem exch_rune {q0 q1 q2 : Nat} {L : List Rw} (h : RuneOk L) : RuneOk (L.map (exch q0 q1 q2)) := by
  intro i hi
  rw [List.length_map] at hi
  rw [map_rowAt hi]
  exact h i hi
/-- THE PLAIN LAW: a number of a range: its cases change places. -/
theorem exch_ask {q0 q1 q2 : Nat} {L : List Rw} (hv : validB L = true) (ht : anyTurnsB L = false) {r : Int} {i : Nat} (hi : i < L.length) (hr : hasR (rowAt L i) r) {c q : Nat} (hq : dlt (exch q0 q1 q2 (rowAt L i)) c = dlt (rowAt L i) q) :
    askM (L.map (exch q0 q1 q2)) c r = askM L q r := by
  have hs := valid_srt hv
  rw [askM_in (exch_srt hs) (i := i) (by rw [List.length_map]; exact hi) (by rw [map_rowAt hi]; exact hr), askM_in hs hi hr, map_rowAt hi]
  have hl := leads_dlt (okRow_leads (valid_row hv hi) (anyTurns_at ht hi))
  unfold cv
  rw [hq, if_neg (by have := hl q; omega), if_neg (by have := hl q; omega)]
theorem exch_out {q0 q1 q2 : Nat} {L : List Rw} {r : Int} (h : ∀ i, i < L.length → ¬ hasR (rowAt L i) r) (c : Nat) : askM (L.map (exch q0 q1 q2)) c r = askM L c r := by
  rw [askM_out h, askM_out (fun i hi => by rw [List.length_map] at hi; rw [map_rowAt hi]; exact h i hi)]

theorem own_form {w : World} {base n c : Nat} {e : TypeId} {A : Option Addr} {xs : List Value} (h : w.ownsRow base e 5 (.slice A n c) n xs) (hn : 0 < n) : ∃ g, A = some ⟨g, 0, none⟩ ∧ base ≤ g ∧ g < w.heap.size := by
  rcases h.2 with ⟨_, h0⟩ | ⟨g, cap, cur, hv, hg, hh, _⟩
  · omega
  · simp only [Value.slice.injEq] at hv
    refine ⟨g, hv.1, hg, ?_⟩
    rcases Nat.lt_or_ge g w.heap.size with hlt | hge
    · exact hlt
    · rw [Array.getElem?_eq_none hge] at hh; cases hh

def setD (x : Rw) : Nat → Int → Rw
  | 0, e => (x.1, x.2.1, e, x.2.2.2.1, x.2.2.2.2)
  | 1, e => (x.1, x.2.1, x.2.2.1, e, x.2.2.2.2)
  | _, e => (x.1, x.2.1, x.2.2.1, x.2.2.2.1, e)
theorem cellsOf_setD (c : Nat) (hc : c < 3) (e : Int) : ∀ (L : List Rw) (i : Nat) (x : Rw), L[i]? = some x → (cellsOf L).set (i * 5 + 2 + c) (.int .i32 e) = cellsOf (L.set i (setD x c e))
  | [], _, _, h => by simp at h
  | y :: L, 0, x, h => by
    simp at h; subst h
    match c, hc with
    | 0, _ => rfl
    | 1, _ => rfl
    | 2, _ => rfl
  | y :: L, i + 1, x, h => by
    have ih := cellsOf_setD c hc e L i x (by simpa using h)
    rw [show (i + 1) * 5 + 2 + c = i * 5 + 2 + c + 5 by omega]
    show rowCells y ++ (cellsOf L).set (i * 5 + 2 + c) (.int .i32 e) = rowCells y ++ cellsOf (L.set i (setD x c e))
    rw [ih]
def qs (q0 q1 q2 : Nat) : Nat → Nat
  | 0 => q0
  | 1 => q1
  | _ => q2
/-- The row with its first j deltas in their new places. -/
def exRow (q0 q1 q2 : Nat) (x : Rw) : Nat → Rw
  | 0 => x
  | 1 => (x.1, x.2.1, dlt x q0, x.2.2.2.1, x.2.2.2.2)
  | 2 => (x.1, x.2.1, dlt x q0, dlt x q1, x.2.2.2.2)
  | _ => exch q0 q1 q2 x
def inL (q0 q1 q2 : Nat) (L : List Rw) (k j : Nat) : List Rw := (exL q0 q1 q2 L k).set k (exRow q0 q1 q2 (rowAt L k) j)
theorem inL_zero {q0 q1 q2 : Nat} {L : List Rw} {k : Nat} (hk : k < L.length) : inL q0 q1 q2 L k 0 = exL q0 q1 q2 L k := by
  unfold inL
  apply List.ext_getElem?
  intro i
  rw [List.getElem?_set]
  split
  · rename_i h
    subst h
    rw [if_pos (by rw [exL_length]; exact hk), exL_at hk]
    rfl
  · rfl
theorem inL_all {q0 q1 q2 : Nat} {L : List Rw} {k : Nat} (hk : k < L.length) : inL q0 q1 q2 L k 3 = exL q0 q1 q2 L (k + 1) := (exL_succ hk).symm
theorem inL_at {q0 q1 q2 : Nat} {L : List Rw} {k j : Nat} (hk : k < L.length) : (inL q0 q1 q2 L k j)[k]? = some (exRow q0 q1 q2 (rowAt L k) j) := by
  unfold inL
  rw [List.getElem?_set, if_pos rfl, if_pos (by rw [exL_length]; exact hk)]
theorem inL_step {q0 q1 q2 : Nat} {L : List Rw} {k j : Nat} (hk : k < L.length) (hj : j < 3) :
    (cellsOf (inL q0 q1 q2 L k j)).set (k * 5 + 2 + j) (.int .i32 (dlt (rowAt L k) (qs q0 q1 q2 j))) = cellsOf (inL q0 q1 q2 L k (j + 1)) := by
  rw [cellsOf_setD j hj _ _ k _ (inL_at hk)]
  congr 1
  unfold inL
  rw [List.set_set]
  match j, hj with
  | 0, _ => rfl
  | 1, _ => rfl
  | 2, _ => rfl
theorem inL_length {q0 q1 q2 : Nat} {L : List Rw} {k j : Nat} : (inL q0 q1 q2 L k j).length = L.length := by
  unfold inL; rw [List.length_set, exL_length]

/-- By a delta of 1 the number 0 becomes 1. -/
def one1 : List Rw := [(0, 0, 1, 1, 1)]
theorem one1_ask (c : Nat) : askM one1 c 0 = 1 := by
  have hs : Srt one1 := Srt.of_next (fun i hi => by match i, hi with | 0, _ => exact Nat.le_refl _) (fun i hi => by simp [one1] at hi)
  rw [askM_in hs (i := 0) (by simp [one1]) (by show (0 : Int) ≤ 0 ∧ (0 : Int) ≤ 0; omega)]
  show wrap32 (cv c 0 (0, 0, 1, 1, 1)) = 1
  unfold cv
  rw [dlt_same, if_neg (by omega), wrap32_in (by omega) (by omega)]
  rfl
theorem one1_ok : RuneOk one1 := by
  intro i hi
  match i, hi with
  | 0, _ => exact ⟨by decide, by decide⟩
end Go.Proofs.YtdabmoekhobgiaaDoor
