/-
  The plain layer: rows of a case list (Lo, Hi, three deltas), the library's binary search and conversion over any list of rows, the standard's mapping over the library's own table, and what the search finds in a list whose ranges are in order. Conditions: none; no program stands in this text.
-/
import Derived.Lib.CaseT
import Derived.RowKit
import Derived.KernelRfl
namespace Go.Proofs.YtdabmoekhobgiaaDoor
open Go.RowKit (wrap32 wrap64)

abbrev Rw := Nat × Nat × Int × Int × Int
def dlt (x : Rw) : Nat → Int
  | 0 => x.2.2.1
  | 1 => x.2.2.2.1
  | _ => x.2.2.2.2
def rowAt (L : List Rw) (i : Nat) : Rw := L.getD i (0, 0, 0, 0, 0)

theorem rowAt_some {L : List Rw} {i : Nat} {x : Rw} (h : L[i]? = some x) : rowAt L i = x := by
  unfold rowAt; rw [List.getD_eq_getElem?_getD, h]; rfl
theorem rowAt_lt {L : List Rw} {i : Nat} (h : i < L.length) : L[i]? = some (rowAt L i) := by
  rw [List.getElem?_eq_getElem h, rowAt_some (List.getElem?_eq_getElem h)]
theorem rowAt_mem {L : List Rw} {i : Nat} (h : i < L.length) : rowAt L i ∈ L := List.mem_of_getElem? (rowAt_lt h)

def lk (L : List Rw) (r : Int) : Nat → Nat → Nat → Option Nat
  | 0, _, _ => none
  | f + 1, lo, hi =>
    if lo < hi then
      (if ((rowAt L ((lo + hi) / 2)).1 : Int) ≤ r ∧ r ≤ ((rowAt L ((lo + hi) / 2)).2.1 : Int) then some ((lo + hi) / 2)
       else if r < ((rowAt L ((lo + hi) / 2)).1 : Int) then lk L r f lo ((lo + hi) / 2)
       else lk L r f ((lo + hi) / 2 + 1) hi)
    else none
def look (L : List Rw) (r : Int) : Option Nat := lk L r (L.length + 1) 0 L.length
def cv (c : Nat) (r : Int) (x : Rw) : Int :=
  if dlt x c > 1114111 then (x.1 : Int) + ((r - x.1) - (r - x.1) % 2 + (c % 2 : Nat)) else r + dlt x c
def toL (L : List Rw) (c : Nat) (r : Int) : Int :=
  match look L r with
  | some i => wrap32 (cv c r (rowAt L i))
  | none => r
/-- The standard's mapping: 0 upper, 1 lower, 2 title case. -/
def std (c : Nat) (r : Int) : Int :=
  if r ≤ 127 then (if c = 1 then (if 65 ≤ r ∧ r ≤ 90 then r + 32 else r) else (if 97 ≤ r ∧ r ≤ 122 then r - 32 else r)) else toL Lib.caseT c r
/-- A number mapped by a list. -/
def askM (L : List Rw) (c : Nat) (r : Int) : Int :=
  match look L r with
  | some i => wrap32 (cv c r (rowAt L i))
  | none => std c r

def hasR (x : Rw) (r : Int) : Prop := (x.1 : Int) ≤ r ∧ r ≤ (x.2.1 : Int)
instance (x : Rw) (r : Int) : Decidable (hasR x r) := inferInstanceAs (Decidable (_ ∧ _))

theorem lk_some (L : List Rw) (r : Int) : ∀ (f lo hi i : Nat), lk L r f lo hi = some i → lo ≤ i ∧ i < hi ∧ hasR (rowAt L i) r
  | 0, _, _, _, h => by simp [lk] at h
  | f + 1, lo, hi, i, h => by
    unfold lk at h
    split at h
    · split at h
      · rename_i hlt hin
        cases h
        exact ⟨by omega, by omega, hin⟩
      · split at h
        · have := lk_some L r f _ _ i h
          exact ⟨this.1, by omega, this.2.2⟩
        · have := lk_some L r f _ _ i h
          exact ⟨by omega, this.2.1, this.2.2⟩
    · cases h

theorem look_some {L : List Rw} {r : Int} {i : Nat} (h : look L r = some i) : i < L.length ∧ hasR (rowAt L i) r :=
  (lk_some L r _ _ _ i h).2

/-- Each range begins at or below its end, and behind the end of every range ahead of it. -/
structure Srt (L : List Rw) : Prop where
  own : ∀ i, i < L.length → (rowAt L i).1 ≤ (rowAt L i).2.1
  next : ∀ i j, i < j → j < L.length → (rowAt L i).2.1 < (rowAt L j).1

theorem Srt.of_next {L : List Rw} (h0 : ∀ i, i < L.length → (rowAt L i).1 ≤ (rowAt L i).2.1)
    (h1 : ∀ i, i + 1 < L.length → (rowAt L i).2.1 < (rowAt L (i + 1)).1) : Srt L := by
  refine ⟨h0, fun i j hij hj => ?_⟩
  obtain ⟨d, rfl⟩ : ∃ d, j = i + 1 + d := ⟨j - i - 1, by omega⟩
  induction d with
  | zero => exact h1 i (by omega)
  | succ d ih =>
    have a := ih (by omega) (by omega)
    have b := h0 (i + 1 + d) (by omega)
    have c := h1 (i + 1 + d) (by omega)
    have : i + 1 + (d + 1) = i + 1 + d + 1 := by omega
    rw [this]; omega

theorem lk_none {L : List Rw} (hs : Srt L) (r : Int) : ∀ (f lo hi : Nat), hi - lo < f → hi ≤ L.length → lk L r f lo hi = none → ∀ i, lo ≤ i → i < hi → ¬ hasR (rowAt L i) r
  | 0, _, _, hf, _, _ => by omega
  | f + 1, lo, hi, hf, hl, h => by
    unfold lk at h
    split at h
    · rename_i hlt
      split at h
      · cases h
      · rename_i hin
        obtain ⟨m, hm⟩ : ∃ m, (lo + hi) / 2 = m := ⟨_, rfl⟩
        rw [hm] at h hin
        have hmo := hs.own m (by omega)
        split at h
        · rename_i hb
          intro i h1 h2 ⟨h3, h4⟩
          rcases Nat.lt_or_ge i m with hi' | hi'
          · exact lk_none hs r f lo m (by omega) (by omega) h i h1 hi' ⟨h3, h4⟩
          · rcases Nat.eq_or_lt_of_le hi' with rfl | hlt'
            · omega
            · have := hs.next m i hlt' (by omega)
              omega
        · rename_i hb
          intro i h1 h2 ⟨h3, h4⟩
          rcases Nat.lt_or_ge m i with hi' | hi'
          · exact lk_none hs r f (m + 1) hi (by omega) (by omega) h i (by omega) h2 ⟨h3, h4⟩
          · rcases Nat.eq_or_lt_of_le hi' with rfl | hlt'
            · exact hin ⟨h3, h4⟩
            · have := hs.next i m hlt' (by omega)
              have : ¬ (r ≤ ((rowAt L m).2.1 : Int)) := fun hh => hin ⟨by omega, hh⟩
              omega
    · intro i h1 h2
      omega

theorem look_none {L : List Rw} (hs : Srt L) {r : Int} (h : look L r = none) (i : Nat) (hi : i < L.length) : ¬ hasR (rowAt L i) r :=
  lk_none hs r _ _ _ (by omega) (Nat.le_refl _) h i (Nat.zero_le _) hi

theorem Srt.one {L : List Rw} (hs : Srt L) {r : Int} {i j : Nat} (hi : i < L.length) (hj : j < L.length) (h1 : hasR (rowAt L i) r) (h2 : hasR (rowAt L j) r) : i = j := by
  rcases Nat.lt_trichotomy i j with h | h | h
  · have := hs.next i j h hj; unfold hasR at h1 h2; omega
  · exact h
  · have := hs.next j i h hi; unfold hasR at h1 h2; omega

theorem look_eq {L : List Rw} (hs : Srt L) {r : Int} {i : Nat} (hi : i < L.length) (h : hasR (rowAt L i) r) : look L r = some i := by
  cases hl : look L r with
  | none => exact absurd h (look_none hs hl i hi)
  | some j => rw [hs.one (look_some hl).1 hi (look_some hl).2 h]

theorem look_eq_none {L : List Rw} {r : Int} (h : ∀ i, i < L.length → ¬ hasR (rowAt L i) r) : look L r = none := by
  cases hl : look L r with
  | none => rfl
  | some j => exact absurd (look_some hl).2 (h j (look_some hl).1)

theorem askM_in {L : List Rw} (hs : Srt L) {r : Int} {i : Nat} (hi : i < L.length) (h : hasR (rowAt L i) r) (c : Nat) : askM L c r = wrap32 (cv c r (rowAt L i)) := by
  unfold askM; rw [look_eq hs hi h]
theorem askM_out {L : List Rw} {r : Int} (h : ∀ i, i < L.length → ¬ hasR (rowAt L i) r) (c : Nat) : askM L c r = std c r := by
  unfold askM; rw [look_eq_none h]

/-- Bounds of every row are such that 'rune(cr.Lo)', 'rune(cr.Hi)' do not wrap, and no sum over them does. -/
def RuneOk (L : List Rw) : Prop := ∀ i, i < L.length → (rowAt L i).1 < 2147483648 ∧ (rowAt L i).2.1 < 2147483647

theorem wrap32_in {n : Int} (h : -2147483648 ≤ n) (h' : n ≤ 2147483647) : wrap32 n = n := by unfold wrap32; omega
theorem wrap32_lo (n : Int) : -2147483648 ≤ wrap32 n := by unfold wrap32; omega
theorem wrap32_hi (n : Int) : wrap32 n ≤ 2147483647 := by unfold wrap32; omega

/-- Of each row of the standard's table: its bounds are code points, in order; whatever lies within them leads to a code point. -/
def rowFits (x : Rw) : Bool :=
  decide (x.1 ≤ x.2.1) && decide (x.2.1 ≤ 1114111) && [0, 1, 2].all fun c =>
    (decide (dlt x c > 1114111) && decide (x.2.1 - x.1 + 1 + x.1 ≤ 1114111)) || (decide (0 ≤ (x.1 : Int) + dlt x c) && decide ((x.2.1 : Int) + dlt x c ≤ 1114111))
set_option maxRecDepth 1000000 in
theorem rowsFit : Lib.caseT.all rowFits = true := by decide +kernel
theorem caseT_length : Lib.caseT.length = 336 := by kernel_rfl
theorem caseT_row (i : Nat) (hi : i < Lib.caseT.length) : rowFits (rowAt Lib.caseT i) = true :=
  List.all_eq_true.1 rowsFit _ (rowAt_mem hi)
theorem caseT_ok : RuneOk Lib.caseT := fun i hi => by
  have := caseT_row i hi
  simp only [rowFits, Bool.and_eq_true, decide_eq_true_eq] at this
  omega

theorem cv_fits {x : Rw} (hx : rowFits x = true) {c : Nat} (hc : c < 3) {r : Int} (h : hasR x r) : 0 ≤ cv c r x ∧ cv c r x ≤ 1114111 := by
  simp only [rowFits, Bool.and_eq_true, decide_eq_true_eq, List.all_cons, List.all_nil, Bool.or_eq_true, Bool.and_true] at hx
  obtain ⟨⟨h1, h2⟩, d0, d1, d2⟩ := hx
  have hd : (dlt x c > 1114111 ∧ x.2.1 - x.1 + 1 + x.1 ≤ 1114111) ∨ (0 ≤ (x.1 : Int) + dlt x c ∧ (x.2.1 : Int) + dlt x c ≤ 1114111) := by
    match c, hc with
    | 0, _ => exact d0
    | 1, _ => exact d1
    | 2, _ => exact d2
  unfold hasR at h
  unfold cv
  split <;> omega

/-- The standard leads code points to code points. -/
theorem std_code {c : Nat} (hc : c < 3) {r : Int} (h0 : 0 ≤ r) (h1 : r ≤ 1114111) : 0 ≤ std c r ∧ std c r ≤ 1114111 := by
  unfold std
  split
  · split <;> split <;> omega
  · unfold toL
    cases hl : look Lib.caseT r with
    | none => exact ⟨h0, h1⟩
    | some i =>
      have := cv_fits (caseT_row i (look_some hl).1) hc (look_some hl).2
      show 0 ≤ wrap32 _ ∧ wrap32 _ ≤ _
      rw [wrap32_in (by omega) (by omega)]
      exact this
theorem std_wf {c : Nat} {r : Int} (h0 : -2147483648 ≤ r) (h1 : r ≤ 2147483647) : -2147483648 ≤ std c r ∧ std c r ≤ 2147483647 := by
  unfold std
  split
  · split <;> split <;> omega
  · unfold toL
    cases hl : look Lib.caseT r with
    | none => exact ⟨h0, h1⟩
    | some i => exact ⟨wrap32_lo _, wrap32_hi _⟩
theorem askM_wf {L : List Rw} {c : Nat} {r : Int} (h0 : -2147483648 ≤ r) (h1 : r ≤ 2147483647) : -2147483648 ≤ askM L c r ∧ askM L c r ≤ 2147483647 := by
  unfold askM
  cases hl : look L r with
  | none => exact std_wf h0 h1
  | some i => exact ⟨wrap32_lo _, wrap32_hi _⟩
theorem dlt_same (a b : Nat) (d : Int) (c : Nat) : dlt (a, b, d, d, d) c = d := by
  match c with
  | 0 => rfl
  | 1 => rfl
  | _ + 2 => rfl
end Go.Proofs.YtdabmoekhobgiaaDoor
