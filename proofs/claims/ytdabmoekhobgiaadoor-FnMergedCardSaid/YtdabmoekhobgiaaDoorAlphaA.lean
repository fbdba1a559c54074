/-
  Plain laws of sorted lists of ranges without a common number; the two ranges of an alphabet. No program in sight.
-/
import Derived.Test.YtdabmoekhobgiaaDoorSorted
import Derived.Test.YtdabmoekhobgiaaDoorExchA
namespace Go.Proofs.YtdabmoekhobgiaaDoor
open Go.RowKit

def Apart (x y : Rw) : Prop := x.2.1 < y.1 ∨ y.2.1 < x.1
theorem Apart.symm {x y : Rw} (h : Apart x y) : Apart y x := Or.symm h
theorem apart_srt {L M : List Rw} (hp : L.Perm M) (hby : ByLo L) (hown : ∀ x ∈ M, x.1 ≤ x.2.1) (hap : M.Pairwise Apart) : Srt L := by
  have hL : L.Pairwise Apart := (hp.pairwise_iff fun h => h.symm).2 hap
  refine ⟨fun i hi => hown _ (hp.mem_iff.1 (rowAt_mem hi)), fun i j hij hj => ?_⟩
  have h := List.pairwise_iff_getElem.1 hL i j (by omega) hj hij
  have e1 : L[i] = rowAt L i := (rowAt_some (List.getElem?_eq_getElem (by omega))).symm
  have e2 : L[j] = rowAt L j := (rowAt_some (List.getElem?_eq_getElem hj)).symm
  rw [e1, e2] at h
  have h1 := hby i j hij hj
  have h2 := hown _ (hp.mem_iff.1 (rowAt_mem hj))
  rcases h with h | h
  · exact h
  · omega
theorem ask_mem {L : List Rw} (hs : Srt L) {x : Rw} (hx : x ∈ L) {r : Int} (hr : hasR x r) (c : Nat) : askM L c r = wrap32 (cv c r x) := by
  obtain ⟨i, hi, rfl⟩ := List.getElem_of_mem hx
  have e1 : L[i] = rowAt L i := (rowAt_some (List.getElem?_eq_getElem hi)).symm
  rw [e1] at hr ⊢
  exact askM_in hs hi hr c
theorem ask_no {L : List Rw} {r : Int} (h : ∀ x ∈ L, ¬ hasR x r) (c : Nat) : askM L c r = std c r :=
  askM_out (fun _ hi => h _ (rowAt_mem hi)) c
theorem rune_mem {L : List Rw} (h : ∀ x ∈ L, x.1 < 2147483648 ∧ x.2.1 < 2147483647) : RuneOk L := fun _ hi => h _ (rowAt_mem hi)

def alph (a b n : Nat) : List Rw := [(a, a + n - 1, 0, (b : Int) - a, 0), (b, b + n - 1, -((b : Int) - a), 0, -((b : Int) - a))]
theorem alph_srt {a b n : Nat} {L : List Rw} (hp : L.Perm (alph a b n)) (hby : ByLo L) (hn : 1 ≤ n) (hd : b + n ≤ a ∨ a + n ≤ b) : Srt L := by
  refine apart_srt hp hby (fun x hx => ?_) ?_
  · simp only [alph, List.mem_cons, List.not_mem_nil, or_false] at hx
    rcases hx with rfl | rfl <;> dsimp only <;> omega
  · simp only [alph, List.pairwise_cons, List.mem_singleton, List.not_mem_nil, forall_eq, List.Pairwise.nil, and_true, Apart, false_imp_iff, implies_true]
    omega
theorem alph_rune {a b n : Nat} {L : List Rw} (hp : L.Perm (alph a b n)) (ha : a + n ≤ 1114112) (hb : b + n ≤ 1114112) : RuneOk L := by
  refine rune_mem fun x hx => ?_
  have hx := hp.mem_iff.1 hx
  simp only [alph, List.mem_cons, List.not_mem_nil, or_false] at hx
  rcases hx with rfl | rfl <;> dsimp only <;> omega
theorem alph_u32 {a b n : Nat} {L : List Rw} (hp : L.Perm (alph a b n)) (ha : a + n ≤ 1114112) (hb : b + n ≤ 1114112) : U32Ok L := fun i hi => by
  have := alph_rune hp ha hb i hi
  omega
theorem alph_len {a b n : Nat} {L : List Rw} (hp : L.Perm (alph a b n)) : L.length = 2 := hp.length_eq
/-- THE PLAIN LAW: both letters of a pair lead to the capital letter C, or in lower case to the small one. -/
theorem alph_ask {a b n : Nat} {L : List Rw} (hp : L.Perm (alph a b n)) (hby : ByLo L) (hn : 1 ≤ n) (ha : a + n ≤ 1114112) (hb : b + n ≤ 1114112) (hd : b + n ≤ a ∨ a + n ≤ b) {C q : Int} (h0 : (a : Int) ≤ C) (h1 : C < (a : Int) + n) (hq : q = C ∨ q = C + ((b : Int) - a)) {c : Nat} (hc : c < 3) :
    askM L c q = if c = 1 then C + ((b : Int) - a) else C := by
  have hs := alph_srt hp hby hn hd
  have m1 : (a, a + n - 1, (0 : Int), (b : Int) - a, (0 : Int)) ∈ L := hp.mem_iff.2 (by simp [alph])
  have m2 : (b, b + n - 1, -((b : Int) - a), (0 : Int), -((b : Int) - a)) ∈ L := hp.mem_iff.2 (by simp [alph])
  rcases hq with rfl | rfl
  · rw [ask_mem hs m1 (by show (a : Int) ≤ q ∧ q ≤ ((a + n - 1 : Nat) : Int); omega)]
    match c, hc with
    | 0, _ => unfold cv; simp only [dlt]; rw [if_neg (by omega), if_neg (by omega), wrap32_in (by omega) (by omega)]; omega
    | 1, _ => unfold cv; simp only [dlt]; rw [if_neg (by omega), if_pos trivial, wrap32_in (by omega) (by omega)]
    | 2, _ => unfold cv; simp only [dlt]; rw [if_neg (by omega), if_neg (by omega), wrap32_in (by omega) (by omega)]; omega
  · rw [ask_mem hs m2 (by show (b : Int) ≤ C + ((b : Int) - a) ∧ C + ((b : Int) - a) ≤ ((b + n - 1 : Nat) : Int); omega)]
    match c, hc with
    | 0, _ => unfold cv; simp only [dlt]; rw [if_neg (by omega), if_neg (by omega), wrap32_in (by omega) (by omega)]; omega
    | 1, _ => unfold cv; simp only [dlt]; rw [if_neg (by omega), if_pos trivial, wrap32_in (by omega) (by omega)]; omega
    | 2, _ => unfold cv; simp only [dlt]; rw [if_neg (by omega), if_neg (by omega), wrap32_in (by omega) (by omega)]; omega
end Go.Proofs.YtdabmoekhobgiaaDoor
