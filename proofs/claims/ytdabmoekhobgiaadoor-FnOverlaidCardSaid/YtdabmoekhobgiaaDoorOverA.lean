/-
  Plain laws of laws.without and laws.FnOverlaid: what is left of a range when the ranges of a sorted list are taken out. No program in sight.
-/
import Derived.Test.YtdabmoekhobgiaaDoorAlphaA
import Derived.Test.YtdabmoekhobgiaaDoorMovedA
namespace Go.Proofs.YtdabmoekhobgiaaDoor
open Go.RowKit

def woStep (x : Rw) (s : Nat × List Rw) (y : Rw) : Nat × List Rw :=
  if y.2.1 < x.1 ∨ x.2.1 < y.1 then s else (y.2.1 + 1, if s.1 < y.1 then s.2 ++ [(s.1, y.1 - 1, x.2.2)] else s.2)
def woS (x : Rw) (M : List Rw) (k : Nat) : Nat × List Rw := (M.take k).foldl (woStep x) (x.1, [])
def wo (x : Rw) (M : List Rw) : List Rw := if (woS x M M.length).1 ≤ x.2.1 then (woS x M M.length).2 ++ [((woS x M M.length).1, x.2.1, x.2.2)] else (woS x M M.length).2
theorem woS_succ (x : Rw) {M : List Rw} {k : Nat} (hk : k < M.length) : woS x M (k + 1) = woStep x (woS x M k) (rowAt M k) := by
  unfold woS; rw [take_snoc hk, List.foldl_append]; rfl

/-- What holds behind k ranges of the list. -/
structure WoInv (x : Rw) (M : List Rw) (k : Nat) (s : Nat × List Rw) : Prop where
  lo : x.1 ≤ s.1
  hi : s.1 ≤ 1114112
  next : ∀ j, k ≤ j → j < M.length → s.1 = x.1 ∨ s.1 ≤ (rowAt M j).1
  own : ∀ z ∈ s.2, x.1 ≤ z.1 ∧ z.1 ≤ z.2.1 ∧ z.2.1 ≤ x.2.1 ∧ z.2.2 = x.2.2 ∧ z.2.1 < s.1
  free : ∀ z ∈ s.2, ∀ j, j < M.length → Apart z (rowAt M j)
  apart : s.2.Pairwise Apart
  cover : ∀ r : Nat, x.1 ≤ r → r < s.1 → r ≤ x.2.1 → (∃ z ∈ s.2, z.1 ≤ r ∧ r ≤ z.2.1) ∨ ∃ j, j < M.length ∧ (rowAt M j).1 ≤ r ∧ r ≤ (rowAt M j).2.1
  past : ∀ j, j < k → j < M.length → (rowAt M j).2.1 < s.1 ∨ x.2.1 < (rowAt M j).1
  len : s.2.length ≤ k

theorem WoInv.zero {x : Rw} {M : List Rw} (hx : x.1 ≤ 1114111) : WoInv x M 0 (x.1, []) where
  lo := Nat.le_refl _
  hi := by show x.1 ≤ _; omega
  next := fun _ _ _ => .inl rfl
  own := fun z hz => by simp at hz
  free := fun z hz => by simp at hz
  apart := .nil
  cover := fun r h1 h2 => by have h2 : r < x.1 := h2; omega
  past := fun j hj => by omega
  len := Nat.le_refl _

theorem WoInv.step {x : Rw} {M : List Rw} {k : Nat} {s : Nat × List Rw} (hs : Srt M) (hM : ∀ j, j < M.length → (rowAt M j).2.1 ≤ 1114111) (hk : k < M.length) (h : WoInv x M k s) : WoInv x M (k + 1) (woStep x s (rowAt M k)) := by
  have hown := hs.own k hk
  have hlt := hs.next
  unfold woStep
  by_cases hc : (rowAt M k).2.1 < x.1 ∨ x.2.1 < (rowAt M k).1
  · rw [if_pos hc]
    refine ⟨h.lo, h.hi, fun j hj => h.next j (by omega), h.own, h.free, h.apart, h.cover, fun j hj hj' => ?_, by have := h.len; omega⟩
    rcases Nat.lt_or_ge j k with hjk | hjk
    · exact h.past j hjk hj'
    · obtain rfl : j = k := by omega
      have := h.lo
      rcases hc with hc | hc
      · exact .inl (by omega)
      · exact .inr hc
  · rw [if_neg hc]
    have hc1 : ¬ (rowAt M k).2.1 < x.1 := fun h => hc (.inl h)
    have hc2 : ¬ x.2.1 < (rowAt M k).1 := fun h => hc (.inr h)
    have hgo : s.1 ≤ (rowAt M k).2.1 := by
      rcases h.next k (Nat.le_refl _) hk with e | e <;> omega
    have hlo := h.lo
    have hmk := hM k hk
    have hnx : ∀ j, k + 1 ≤ j → j < M.length → (rowAt M k).2.1 + 1 = x.1 ∨ (rowAt M k).2.1 + 1 ≤ (rowAt M j).1 := fun j hj hj' => .inr (hlt k j (by omega) hj')
    have hpast : ∀ j, j < k + 1 → j < M.length → (rowAt M j).2.1 < (rowAt M k).2.1 + 1 ∨ x.2.1 < (rowAt M j).1 := fun j hj hj' => by
      rcases Nat.lt_or_ge j k with hjk | hjk
      · rcases h.past j hjk hj' with e | e
        · exact .inl (by omega)
        · exact .inr e
      · obtain rfl : j = k := by omega
        exact .inl (by omega)
    by_cases hb : s.1 < (rowAt M k).1
    · rw [if_pos hb]
      refine ⟨by show x.1 ≤ (rowAt M k).2.1 + 1; omega, by show (rowAt M k).2.1 + 1 ≤ _; omega, hnx, ?_, ?_, ?_, ?_, hpast, by have := h.len; simp; omega⟩
      · intro z hz
        rcases List.mem_append.1 hz with hz | hz
        · obtain ⟨o1, o2, o3, o4, o5⟩ := h.own z hz
          exact ⟨o1, o2, o3, o4, by show z.2.1 < (rowAt M k).2.1 + 1; omega⟩
        · obtain rfl := List.mem_singleton.1 hz
          exact ⟨hlo, by show s.1 ≤ (rowAt M k).1 - 1; omega, by show (rowAt M k).1 - 1 ≤ x.2.1; omega, rfl, by show (rowAt M k).1 - 1 < (rowAt M k).2.1 + 1; omega⟩
      · intro z hz j hj
        rcases List.mem_append.1 hz with hz | hz
        · exact h.free z hz j hj
        · obtain rfl := List.mem_singleton.1 hz
          show (rowAt M k).1 - 1 < (rowAt M j).1 ∨ (rowAt M j).2.1 < s.1
          rcases Nat.lt_or_ge j k with hjk | hjk
          · rcases h.past j hjk hj with e | e
            · exact .inr e
            · exact .inl (by omega)
          · rcases Nat.eq_or_lt_of_le hjk with e | e
            · subst e; exact .inl (by omega)
            · have := hlt k j e hj; exact .inl (by omega)
      · refine List.pairwise_append.2 ⟨h.apart, List.pairwise_singleton _ _, fun z hz z' hz' => ?_⟩
        obtain rfl := List.mem_singleton.1 hz'
        exact .inl (h.own z hz).2.2.2.2
      · intro r h1 h2 h3
        have h2 : r < (rowAt M k).2.1 + 1 := h2
        rcases Nat.lt_or_ge r s.1 with hr | hr
        · rcases h.cover r h1 hr h3 with ⟨z, hz, e⟩ | e
          · exact .inl ⟨z, List.mem_append_left _ hz, e⟩
          · exact .inr e
        · rcases Nat.lt_or_ge r (rowAt M k).1 with hr' | hr'
          · exact .inl ⟨_, List.mem_append_right _ (List.mem_singleton.2 rfl), hr, by show r ≤ (rowAt M k).1 - 1; omega⟩
          · exact .inr ⟨k, hk, hr', by omega⟩
    · rw [if_neg hb]
      refine ⟨by show x.1 ≤ (rowAt M k).2.1 + 1; omega, by show (rowAt M k).2.1 + 1 ≤ _; omega, hnx, ?_, h.free, h.apart, ?_, hpast, by have := h.len; show s.2.length ≤ k + 1; omega⟩
      · intro z hz
        obtain ⟨o1, o2, o3, o4, o5⟩ := h.own z hz
        exact ⟨o1, o2, o3, o4, by show z.2.1 < (rowAt M k).2.1 + 1; omega⟩
      · intro r h1 h2 h3
        have h2 : r < (rowAt M k).2.1 + 1 := h2
        rcases Nat.lt_or_ge r s.1 with hr | hr
        · exact h.cover r h1 hr h3
        · exact .inr ⟨k, hk, by omega, by omega⟩

theorem woS_inv {x : Rw} {M : List Rw} (hs : Srt M) (hM : ∀ j, j < M.length → (rowAt M j).2.1 ≤ 1114111) (hx : x.1 ≤ x.2.1) (hx' : x.2.1 ≤ 1114111) : ∀ k, k ≤ M.length → WoInv x M k (woS x M k)
  | 0, _ => WoInv.zero (by omega)
  | k + 1, hk => by rw [woS_succ x hk]; exact (woS_inv hs hM hx hx' k (by omega)).step hs hM hk

/-- What is left of x. -/
structure Wo (x : Rw) (M W : List Rw) : Prop where
  own : ∀ z ∈ W, x.1 ≤ z.1 ∧ z.1 ≤ z.2.1 ∧ z.2.1 ≤ x.2.1 ∧ z.2.2 = x.2.2
  free : ∀ z ∈ W, ∀ y ∈ M, Apart z y
  apart : W.Pairwise Apart
  cover : ∀ r : Int, hasR x r → (∃ z ∈ W, hasR z r) ∨ ∃ y ∈ M, hasR y r
  len : W.length ≤ M.length + 1

theorem mem_rowAt {M : List Rw} {y : Rw} (h : y ∈ M) : ∃ j, j < M.length ∧ rowAt M j = y := by
  obtain ⟨j, hj, rfl⟩ := List.getElem_of_mem h
  exact ⟨j, hj, rowAt_some (List.getElem?_eq_getElem hj)⟩

theorem wo_is {x : Rw} {M : List Rw} (hs : Srt M) (hM : ∀ j, j < M.length → (rowAt M j).2.1 ≤ 1114111) (hx : x.1 ≤ x.2.1) (hx' : x.2.1 ≤ 1114111) : Wo x M (wo x M) := by
  have h := woS_inv hs hM hx hx' M.length (Nat.le_refl _)
  unfold wo
  generalize woS x M M.length = s at *
  by_cases hc : s.1 ≤ x.2.1
  · rw [if_pos hc]
    refine ⟨?_, ?_, ?_, ?_, by have := h.len; simp; omega⟩
    · intro z hz
      rcases List.mem_append.1 hz with hz | hz
      · obtain ⟨o1, o2, o3, o4, o5⟩ := h.own z hz
        exact ⟨o1, o2, o3, o4⟩
      · obtain rfl := List.mem_singleton.1 hz
        exact ⟨h.lo, hc, Nat.le_refl _, rfl⟩
    · intro z hz y hy
      obtain ⟨j, hj, rfl⟩ := mem_rowAt hy
      rcases List.mem_append.1 hz with hz | hz
      · exact h.free z hz j hj
      · obtain rfl := List.mem_singleton.1 hz
        exact (h.past j hj hj).symm
    · refine List.pairwise_append.2 ⟨h.apart, List.pairwise_singleton _ _, fun z hz z' hz' => ?_⟩
      obtain rfl := List.mem_singleton.1 hz'
      exact .inl (h.own z hz).2.2.2.2
    · intro r hr
      unfold hasR at hr
      obtain ⟨r', rfl⟩ := Int.eq_ofNat_of_zero_le (show 0 ≤ r by omega)
      rcases Nat.lt_or_ge r' s.1 with hr' | hr'
      · rcases h.cover r' (by omega) hr' (by omega) with ⟨z, hz, e1, e2⟩ | ⟨j, hj, e1, e2⟩
        · exact .inl ⟨z, List.mem_append_left _ hz, by unfold hasR; omega⟩
        · exact .inr ⟨_, rowAt_mem hj, by unfold hasR; omega⟩
      · exact .inl ⟨_, List.mem_append_right _ (List.mem_singleton.2 rfl), by show (s.1 : Int) ≤ r' ∧ (r' : Int) ≤ x.2.1; omega⟩
  · rw [if_neg hc]
    refine ⟨?_, ?_, h.apart, ?_, by have := h.len; omega⟩
    · intro z hz
      obtain ⟨o1, o2, o3, o4, o5⟩ := h.own z hz
      exact ⟨o1, o2, o3, o4⟩
    · intro z hz y hy
      obtain ⟨j, hj, rfl⟩ := mem_rowAt hy
      exact h.free z hz j hj
    · intro r hr
      unfold hasR at hr
      obtain ⟨r', rfl⟩ := Int.eq_ofNat_of_zero_le (show 0 ≤ r by omega)
      rcases h.cover r' (by omega) (by omega) (by omega) with ⟨z, hz, e1, e2⟩ | ⟨j, hj, e1, e2⟩
      · exact .inl ⟨z, hz, by unfold hasR; omega⟩
      · exact .inr ⟨_, rowAt_mem hj, by unfold hasR; omega⟩

/-- All of the list on top, and what is left of the other one. -/
def over (M L : List Rw) : List Rw := M ++ L.flatMap (fun x => wo x M)
theorem over_take {M L : List Rw} {k : Nat} (hk : k < L.length) : over M (L.take (k + 1)) = over M (L.take k) ++ wo (rowAt L k) M := by
  unfold over; rw [take_snoc hk, List.flatMap_append]; simp
theorem over_len {L M : List Rw} (h : ∀ x ∈ L, (wo x M).length ≤ M.length + 1) : (over M L).length ≤ M.length + L.length * (M.length + 1) := by
  unfold over
  rw [List.length_append]
  suffices (L.flatMap fun x => wo x M).length ≤ L.length * (M.length + 1) by omega
  induction L with
  | nil => simp
  | cons x L ih =>
    rw [List.flatMap_cons, List.length_append, List.length_cons, Nat.add_mul]
    have h1 := h x (by simp)
    have h2 := ih (fun y hy => h y (by simp [hy]))
    omega

theorem over_wo {L M : List Rw} (hv : validB L = true) (hm : validB M = true) {x : Rw} (hx : x ∈ L) : Wo x M (wo x M) := by
  obtain ⟨i, hi, rfl⟩ := mem_rowAt hx
  have hb := okRow_bounds (valid_row hv hi)
  exact wo_is (valid_srt hm) (fun j hj => (okRow_bounds (valid_row hm hj)).2) hb.1 hb.2
theorem over_own {L M : List Rw} (hv : validB L = true) (hm : validB M = true) : ∀ z ∈ over M L, z.1 ≤ z.2.1 ∧ z.2.1 ≤ 1114111 := by
  intro z hz
  rcases List.mem_append.1 hz with hz | hz
  · obtain ⟨j, hj, rfl⟩ := mem_rowAt hz
    exact okRow_bounds (valid_row hm hj)
  · obtain ⟨x, hx, hz⟩ := List.mem_flatMap.1 hz
    have h := (over_wo hv hm hx).own z hz
    obtain ⟨i, hi, rfl⟩ := mem_rowAt hx
    have hb := okRow_bounds (valid_row hv hi)
    omega
theorem srt_apart {K : List Rw} (hs : Srt K) : K.Pairwise Apart := by
  refine List.pairwise_iff_getElem.2 fun i j hi hj hij => ?_
  have e1 : K[i] = rowAt K i := (rowAt_some (List.getElem?_eq_getElem hi)).symm
  have e2 : K[j] = rowAt K j := (rowAt_some (List.getElem?_eq_getElem hj)).symm
  rw [e1, e2]
  exact .inl (hs.next i j hij hj)
theorem over_apart {L M : List Rw} (hv : validB L = true) (hm : validB M = true) : (over M L).Pairwise Apart := by
  refine List.pairwise_append.2 ⟨srt_apart (valid_srt hm), ?_, ?_⟩
  · refine List.pairwise_flatMap.2 ⟨fun x hx => (over_wo hv hm hx).apart, ?_⟩
    refine List.Pairwise.imp_of_mem ?_ (srt_apart (valid_srt hv))
    intro x y hx hy hxy z hz z' hz'
    have h1 := (over_wo hv hm hx).own z hz
    have h2 := (over_wo hv hm hy).own z' hz'
    unfold Apart at hxy ⊢
    omega
  · intro y hy z hz
    obtain ⟨x, hx, hz⟩ := List.mem_flatMap.1 hz
    exact ((over_wo hv hm hx).free z hz y hy).symm
theorem over_srt {L M : List Rw} (hv : validB L = true) (hm : validB M = true) {K : List Rw} (hp : K.Perm (over M L)) (hby : ByLo K) : Srt K := apart_srt hp hby (fun z hz => (over_own hv hm z hz).1) (over_apart hv hm)
theorem over_rune {L M : List Rw} (hv : validB L = true) (hm : validB M = true) {K : List Rw} (hp : K.Perm (over M L)) : RuneOk K := rune_mem fun z hz => by
  have := over_own hv hm z (hp.mem_iff.1 hz)
  omega
theorem over_length {L M : List Rw} (hv : validB L = true) (hm : validB M = true) {K : List Rw} (hp : K.Perm (over M L)) (hby : ByLo K) : K.length ≤ 1114112 := by
  have h := srt_length (over_srt hv hm hp hby)
  rcases Nat.eq_zero_or_pos K.length with h0 | h0
  · omega
  · have h1 := h (K.length - 1) (by omega)
    have h2 := over_own hv hm _ (hp.mem_iff.1 (rowAt_mem (L := K) (i := K.length - 1) (by omega)))
    omega
/-- THE PLAIN LAW: a number that the list on top has. -/
theorem over_top {L M : List Rw} (hv : validB L = true) (hm : validB M = true) {K : List Rw} (hp : K.Perm (over M L)) (hby : ByLo K) {r : Int} {j : Nat} (hj : j < M.length) (hr : hasR (rowAt M j) r) (c : Nat) : askM K c r = askM M c r := by
  rw [ask_mem (over_srt hv hm hp hby) (hp.mem_iff.2 (List.mem_append_left _ (rowAt_mem hj))) hr, askM_in (valid_srt hm) hj hr]
/-- THE PLAIN LAW: every other number. -/
theorem over_rest {L M : List Rw} (hv : validB L = true) (hm : validB M = true) {K : List Rw} (ht : anyTurnsB L = false) (hp : K.Perm (over M L)) (hby : ByLo K) {r : Int} (hno : ∀ j, j < M.length → ¬ hasR (rowAt M j) r) (c : Nat) : askM K c r = askM L c r := by
  rcases Classical.em (∃ x ∈ L, hasR x r) with ⟨x, hx, hr⟩ | hn
  · rcases (over_wo hv hm hx).cover r hr with ⟨z, hz, hzr⟩ | ⟨y, hy, hyr⟩
    · have ho := (over_wo hv hm hx).own z hz
      rw [ask_mem (over_srt hv hm hp hby) (hp.mem_iff.2 (List.mem_append_right _ (List.mem_flatMap.2 ⟨x, hx, hz⟩))) hzr, ask_mem (valid_srt hv) hx hr]
      obtain ⟨i, hi, rfl⟩ := mem_rowAt hx
      have hl := leads_dlt (okRow_leads (valid_row hv hi) (anyTurns_at ht hi)) c
      have hd : dlt z c = dlt (rowAt L i) c := by
        match c with
        | 0 => show z.2.2.1 = _; rw [ho.2.2.2]; rfl
        | 1 => show z.2.2.2.1 = _; rw [ho.2.2.2]; rfl
        | _ + 2 => show z.2.2.2.2 = _; rw [ho.2.2.2]; rfl
      unfold cv
      rw [hd, if_neg (by omega), if_neg (by omega)]
    · obtain ⟨j, hj, rfl⟩ := mem_rowAt hy
      exact absurd hyr (hno j hj)
  · rw [ask_no (L := L) (fun x hx hr => hn ⟨x, hx, hr⟩), ask_no]
    intro z hz hr
    rcases List.mem_append.1 (hp.mem_iff.1 hz) with hz | hz
    · obtain ⟨j, hj, rfl⟩ := mem_rowAt hz
      exact hno j hj hr
    · obtain ⟨x, hx, hz⟩ := List.mem_flatMap.1 hz
      have ho := (over_wo hv hm hx).own z hz
      refine hn ⟨x, hx, ?_⟩
      unfold hasR at hr ⊢
      omega
end Go.Proofs.YtdabmoekhobgiaaDoor
