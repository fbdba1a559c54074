/-
  Lists of ranges of one number each. Conditions: the numbers rise.
-/
import Derived.Test.YtdabmoekhobgiaaDoorExchA
namespace Go.Proofs.YtdabmoekhobgiaaDoor
open Go.RowKit

/-- n ranges of one number each. -/
def single (X : Nat → Nat) (D : Nat → Int × Int × Int) (n : Nat) : List Rw := (List.range n).map fun j => (X j, X j, D j)
theorem single_length (X : Nat → Nat) (D : Nat → Int × Int × Int) (n : Nat) : (single X D n).length = n := by simp [single]
theorem single_at {X : Nat → Nat} {D : Nat → Int × Int × Int} {n j : Nat} (hj : j < n) : rowAt (single X D n) j = (X j, X j, D j) := rowAt_some (by simp [single, hj])
theorem single_succ (X : Nat → Nat) (D : Nat → Int × Int × Int) (n : Nat) : single X D (n + 1) = single X D n ++ [(X n, X n, D n)] := by
  unfold single; rw [List.range_succ, List.map_append]; rfl
theorem single_zero (X : Nat → Nat) (D : Nat → Int × Int × Int) : single X D 0 = [] := rfl
theorem single_srt {X : Nat → Nat} {D : Nat → Int × Int × Int} {n : Nat} (hX : ∀ i j, i < j → j < n → X i < X j) : Srt (single X D n) := by
  refine ⟨fun i hi => ?_, fun i j hij hj => ?_⟩
  · rw [single_length] at hi
    rw [single_at hi]
    exact Nat.le_refl _
  · rw [single_length] at hj
    rw [single_at hj, single_at (show i < n by omega)]
    exact hX i j hij hj
theorem single_rune {X : Nat → Nat} {D : Nat → Int × Int × Int} {n : Nat} (hX : ∀ i, i < n → X i ≤ 1114111) : RuneOk (single X D n) := by
  intro i hi
  rw [single_length] at hi
  rw [single_at hi]
  have := hX i hi
  show X i < _ ∧ X i < _
  omega
theorem single_ask {X : Nat → Nat} {D : Nat → Int × Int × Int} {n : Nat} (hX : ∀ i j, i < j → j < n → X i < X j) {i : Nat} (hi : i < n) {c : Nat} {v : Int} (hd : dlt (X i, X i, D i) c ≤ 1114111) (hv : (X i : Int) + dlt (X i, X i, D i) c = v) (h0 : -2147483648 ≤ v) (h1 : v ≤ 2147483647) :
    askM (single X D n) c (X i) = v := by
  rw [askM_in (single_srt hX) (i := i) (by rw [single_length]; exact hi) (by rw [single_at hi]; exact ⟨Int.le_refl _, Int.le_refl _⟩), single_at hi]
  unfold cv
  rw [if_neg (by omega), hv, wrap32_in h0 h1]
theorem single_out {X : Nat → Nat} {D : Nat → Int × Int × Int} {n : Nat} {r : Int} (h : ∀ i, i < n → (X i : Int) ≠ r) (c : Nat) : askM (single X D n) c r = std c r := by
  refine askM_out (fun i hi => ?_) c
  rw [single_length] at hi
  rw [single_at hi]
  rintro ⟨h1, h2⟩
  exact h i hi (Int.le_antisymm h1 h2)

/-! FnManyRanges. -/
def manyX (lo gap : Nat) (j : Nat) : Nat := lo + gap * j
def manyD (lo gap : Nat) (j : Nat) : Int × Int × Int := ((j : Int) - ((lo : Int) + gap * j), (j : Int) - ((lo : Int) + gap * j), (j : Int) - ((lo : Int) + gap * j))
theorem manyX_lt {lo gap : Nat} (hg : 2 ≤ gap) {i j : Nat} (h : i < j) : manyX lo gap i + 2 ≤ manyX lo gap j := by
  unfold manyX
  have : gap * (i + 1) ≤ gap * j := Nat.mul_le_mul_left _ h
  rw [Nat.mul_add] at this
  omega
theorem manyX_le {lo gap n : Nat} (hg : 2 ≤ gap) (h : lo + gap * n ≤ 1114112) {i : Nat} (hi : i < n) : manyX lo gap i ≤ 1114110 := by
  have : gap * (i + 1) ≤ gap * n := Nat.mul_le_mul_left _ hi
  rw [Nat.mul_add] at this
  unfold manyX
  omega
theorem many_hit {lo gap n i c : Nat} (hg : 2 ≤ gap) (h : lo + gap * n ≤ 1114112) (hn : n ≤ 65536) (hi : i < n) : askM (single (manyX lo gap) (manyD lo gap) n) c ((lo : Int) + gap * i) = i := by
  have hx := manyX_le (lo := lo) hg h hi
  have e : ((lo : Int) + gap * i) = (manyX lo gap i : Nat) := by unfold manyX; simp
  have hd : dlt (manyX lo gap i, manyX lo gap i, manyD lo gap i) c = (i : Int) - (manyX lo gap i : Nat) := by
    unfold manyD
    rw [dlt_same, e]
  rw [e]
  exact single_ask (fun i j hij _ => by have := manyX_lt (lo := lo) hg hij; omega) hi (by omega) (by omega) (by omega) (by omega)
theorem many_miss {lo gap n i c : Nat} (hg : 2 ≤ gap) : askM (single (manyX lo gap) (manyD lo gap) n) c ((lo : Int) + gap * i + 1) = std c ((lo : Int) + gap * i + 1) := by
  have e : ((lo : Int) + gap * i) = (manyX lo gap i : Nat) := by unfold manyX; simp
  rw [e]
  refine single_out (fun j _ he => ?_) c
  rcases Nat.lt_trichotomy i j with h | rfl | h
  · have := manyX_lt (lo := lo) hg h; omega
  · omega
  · have := manyX_lt (lo := lo) hg h; omega
theorem many_rune {lo gap n : Nat} (hg : 2 ≤ gap) (h : lo + gap * n ≤ 1114112) : RuneOk (single (manyX lo gap) (manyD lo gap) n) :=
  single_rune fun _ hi => by have := manyX_le (lo := lo) hg h hi; omega
/-- The cells of the next row, as the walk has them. -/
theorem many_cells (lo gap k : Nat) : rowCells (manyX lo gap k, manyX lo gap k, manyD lo gap k) = [.int .u32 ((lo : Int) + gap * k), .int .u32 ((lo : Int) + gap * k), .int .i32 ((k : Int) - ((lo : Int) + gap * k)), .int .i32 ((k : Int) - ((lo : Int) + gap * k)), .int .i32 ((k : Int) - ((lo : Int) + gap * k))] := by
  have e : ((manyX lo gap k : Nat) : Int) = (lo : Int) + gap * k := by unfold manyX; simp
  unfold rowCells manyD
  dsimp only
  rw [e]
end Go.Proofs.YtdabmoekhobgiaaDoor
