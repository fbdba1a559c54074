/-
  Rows changed one behind the other; the plain law of ranges that are moved by one number. Conditions: both lists are valid.
-/
import Derived.Test.YtdabmoekhobgiaaDoorExchA
namespace Go.Proofs.YtdabmoekhobgiaaDoor
open Go.RowKit

/-- The list with its first k rows changed. -/
def updL (f : Rw → Rw) (L : List Rw) (k : Nat) : List Rw := (L.take k).map f ++ L.drop k
theorem updL_length (f : Rw → Rw) (L : List Rw) (k : Nat) : (updL f L k).length = L.length := by unfold updL; simp; omega
theorem updL_zero (f : Rw → Rw) (L : List Rw) : updL f L 0 = L := by simp [updL]
theorem updL_all (f : Rw → Rw) (L : List Rw) : updL f L L.length = L.map f := by simp [updL]
theorem updL_at {f : Rw → Rw} {L : List Rw} {k : Nat} (hk : k < L.length) : (updL f L k)[k]? = some (rowAt L k) := by
  unfold updL
  rw [List.getElem?_append_right (by simp; omega), List.length_map, List.length_take, Nat.min_eq_left (by omega), Nat.sub_self, List.getElem?_drop, Nat.add_zero, rowAt_lt hk]
theorem updL_succ {f : Rw → Rw} {L : List Rw} {k : Nat} (hk : k < L.length) : updL f L (k + 1) = (updL f L k).set k (f (rowAt L k)) := by
  unfold updL
  rw [take_snoc hk, List.map_append, List.set_append_right _ _ (by simp; omega)]
  rw [List.length_map, List.length_take, Nat.min_eq_left (by omega), Nat.sub_self, List.drop_eq_getElem_cons hk, List.append_assoc]
  rfl
theorem cellsOf_set2 (a b : Nat) : ∀ (L : List Rw) (i : Nat) (x : Rw), L[i]? = some x →
    ((cellsOf L).set (i * 5) (.int .u32 a)).set (i * 5 + 1) (.int .u32 b) = cellsOf (L.set i (a, b, x.2.2))
  | [], _, _, h => by simp at h
  | y :: L, 0, x, h => by
    simp at h; subst h
    rfl
  | y :: L, i + 1, x, h => by
    have ih := cellsOf_set2 a b L i x (by simpa using h)
    rw [show (i + 1) * 5 + 1 = i * 5 + 1 + 5 by omega, show (i + 1) * 5 = i * 5 + 5 by omega]
    show rowCells y ++ ((cellsOf L).set (i * 5) (.int .u32 a)).set (i * 5 + 1) (.int .u32 b) = rowCells y ++ cellsOf (L.set i (a, b, x.2.2))
    rw [ih]

/-- A row moved by a number. -/
def mv (by' : Int) (x : Rw) : Rw := ((x.1 + by').toNat, (x.2.1 + by').toNat, x.2.2)
theorem mv_step {by' : Int} {L : List Rw} {k : Nat} (hk : k < L.length) :
    ((cellsOf (updL (mv by') L k)).set (k * 5) (.int .u32 (((rowAt L k).1 + by').toNat : Nat))).set (k * 5 + 1) (.int .u32 (((rowAt L k).2.1 + by').toNat : Nat)) = cellsOf (updL (mv by') L (k + 1)) := by
  rw [cellsOf_set2 _ _ _ k _ (updL_at hk), updL_succ hk]
  rfl
theorem dlt_mv (by' : Int) (x : Rw) (c : Nat) : dlt (mv by' x) c = dlt x c := by
  match c with
  | 0 => rfl
  | 1 => rfl
  | _ + 2 => rfl
theorem turnsB_dlt {x : Rw} (h : turnsB x = true) (c : Nat) : dlt x c = 1114112 := by
  unfold turnsB at h
  simp only [Bool.and_eq_true, beq_iff_eq] at h
  match c with
  | 0 => exact h.1.1
  | 1 => exact h.1.2
  | _ + 2 => exact h.2
theorem okRow_par {x : Rw} (h : okRow x = true) (ht : turnsB x = true) : (x.2.1 - x.1) % 2 = 1 := by
  unfold okRow at h
  rw [ht] at h
  simp only [Bool.and_eq_true, decide_eq_true_eq, if_true] at h
  exact h.2
/-- A row of a valid list leads its numbers to code points. -/
theorem okRow_cv {x : Rw} (h : okRow x = true) {r : Int} (hr : hasR x r) (c : Nat) : 0 ≤ cv c r x ∧ cv c r x ≤ 1114111 := by
  have hb := okRow_bounds h
  unfold hasR at hr
  cases ht : turnsB x with
  | true =>
    have hp := okRow_par h ht
    have hd := turnsB_dlt ht c
    unfold cv
    rw [hd, if_pos (by omega)]
    omega
  | false =>
    have hl := leads_dlt (okRow_leads h ht) c
    unfold cv
    rw [if_neg (by omega)]
    omega
theorem valid_ask {L : List Rw} (hv : validB L = true) {r : Int} {i : Nat} (hi : i < L.length) (hr : hasR (rowAt L i) r) (c : Nat) : askM L c r = cv c r (rowAt L i) ∧ 0 ≤ askM L c r ∧ askM L c r ≤ 1114111 := by
  have h := okRow_cv (valid_row hv hi) hr c
  rw [askM_in (valid_srt hv) hi hr, wrap32_in (by omega) (by omega)]
  exact ⟨rfl, h⟩
/-- THE PLAIN LAW. -/
theorem mv_ask {L : List Rw} {by' : Int} (hv : validB L = true) (hm : validB (L.map (mv by')) = true) (h0 : ∀ i, i < L.length → 0 ≤ ((rowAt L i).1 : Int) + by') {r : Int} {i : Nat} (hi : i < L.length) (hr : hasR (rowAt L i) r) (c : Nat) :
    askM (L.map (mv by')) c (r + by') = askM L c r + by' := by
  have hb := okRow_bounds (valid_row hv hi)
  have hlo := h0 i hi
  have hr' : hasR (rowAt (L.map (mv by')) i) (r + by') := by
    rw [map_rowAt hi]
    unfold hasR at hr ⊢
    show (((rowAt L i).1 + by').toNat : Int) ≤ r + by' ∧ r + by' ≤ (((rowAt L i).2.1 + by').toNat : Int)
    omega
  rw [(valid_ask hm (by rw [List.length_map]; exact hi) hr' c).1, (valid_ask hv hi hr c).1, map_rowAt hi]
  have e : ((mv by' (rowAt L i)).1 : Int) = (rowAt L i).1 + by' := by
    show (((rowAt L i).1 + by').toNat : Int) = _
    omega
  unfold cv
  rw [dlt_mv, e]
  by_cases hd : dlt (rowAt L i) c > 1114111
  · rw [if_pos hd, if_pos hd, show r + by' - ((rowAt L i).1 + by') = r - (rowAt L i).1 by omega]
    omega
  · rw [if_neg hd, if_neg hd]
    omega
end Go.Proofs.YtdabmoekhobgiaaDoor
