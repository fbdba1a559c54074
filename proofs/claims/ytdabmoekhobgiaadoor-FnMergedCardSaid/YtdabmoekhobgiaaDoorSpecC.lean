/-
  Contracts of spec.AnyTurns, At and Mapped. Conditions: the list lies in memory, its bounds fit uint32.
-/
import Derived.Test.YtdabmoekhobgiaaDoorSpecB
namespace Go.Proofs.YtdabmoekhobgiaaDoor
open Go.RowKit

theorem any_none {L : List Rw} (h : ∀ j, j < L.length → turnsB (rowAt L j) = false) : anyTurnsB L = false := by
  unfold anyTurnsB
  rw [List.any_eq_false]
  intro x hx
  obtain ⟨i, hi, rfl⟩ := List.mem_iff_getElem.1 hx
  have := h i hi
  rw [rowAt_some (List.getElem?_eq_getElem hi)] at this
  simp [this]
theorem any_some {L : List Rw} {k : Nat} (hk : k < L.length) (h : turnsB (rowAt L k) = true) : anyTurnsB L = true := List.any_eq_true.2 ⟨_, rowAt_mem hk, h⟩

/-- The number of the range that has r, or -1. -/
def atM (L : List Rw) (r : Int) : Int := match (List.range L.length).find? (fun i => hasB (rowAt L i) r) with | some i => (i : Int) | none => -1
theorem atM_found {L : List Rw} {r : Int} {k : Nat} (hk : k < L.length) (h : hasB (rowAt L k) r = true) (hn : ∀ j, j < k → hasB (rowAt L j) r = false) : atM L r = k := by
  have : (List.range L.length).find? (fun i => hasB (rowAt L i) r) = some k := by
    rw [List.find?_range_eq_some]
    exact ⟨h, by simpa using hk, fun j hj => by simp [hn j hj]⟩
  unfold atM
  rw [this]
theorem atM_none {L : List Rw} {r : Int} (hn : ∀ j, j < L.length → hasB (rowAt L j) r = false) : atM L r = -1 := by
  have : (List.range L.length).find? (fun i => hasB (rowAt L i) r) = none := by
    rw [List.find?_eq_none]
    intro j hj
    simp [hn j (List.mem_range.1 hj)]
  unfold atM
  rw [this]
theorem atM_cases (L : List Rw) (r : Int) : (∃ k, k < L.length ∧ hasB (rowAt L k) r = true ∧ atM L r = k) ∨ ((∀ j, j < L.length → hasB (rowAt L j) r = false) ∧ atM L r = -1) := by
  cases h : (List.range L.length).find? (fun i => hasB (rowAt L i) r) with
  | none =>
    right
    have hn : ∀ j, j < L.length → hasB (rowAt L j) r = false := fun j hj => by
      have := List.find?_eq_none.1 h j (List.mem_range.2 hj)
      simpa using this
    exact ⟨hn, atM_none hn⟩
  | some k =>
    left
    have h1 := List.find?_some h
    have h2 := List.mem_range.1 (List.mem_of_find?_eq_some h)
    refine ⟨k, h2, h1, ?_⟩
    unfold atM
    rw [h]

set_option maxHeartbeats 1000000 in
set_option maxRecDepth 1000000 in
theorem anyTurns_any (L : List Rw) (A : Option Addr) (cap : Nat) (w : World) (hT : RowsAt w A L) (hn : L.length ≤ 9223372036854775807) :
    Calls Tryd.prog 22 #[.slice A L.length cap] w fun e w' => e = .returned (.bool (anyTurnsB L)) ∧ Below w.heap.size w w' := by
  go_enter Tryd.func22, Tryd.ntmps22
  go_wp2
  go_loopw [7] (fun i wr => ∃ k : Nat, k ≤ L.length ∧ i = .int .i64 k ∧ (∀ j, j < k → turnsB (rowAt L j) = false) ∧ Below w.heap.size w wr) (fun i _ => L.length - (intOf i).toNat)
  case atStart => exact ⟨0, Nat.zero_le _, rfl, fun j hj => absurd hj (by omega), Below.refl _ _⟩
  case round =>
    obtain ⟨k, hk, rfl, hok, hbl⟩ := hrel
    have hsz := hbl.size
    by_cases hlt : k < L.length
    · obtain ⟨b, off, rfl, hb, hc0, hc1, hc2, hc3, hc4⟩ := hT.row hlt
      have HBAD := Lib.hid (fun (h : turnsB (rowAt L k) = true) => any_some hlt h)
      have HSTEP : Hid (turnsB (rowAt L k) = false → ∀ j, j < k + 1 → turnsB (rowAt L j) = false) := fun h j hj => by
        rcases Nat.lt_or_ge j k with h' | h'
        · exact hok j h'
        · obtain rfl : j = k := by omega
          exact h
      clear hok hT
      have q0 := (hbl.cell (p := ⟨b, off + k * 5, none⟩) hb).trans hc0
      have q1 := (hbl.cell (p := ⟨b, off + k * 5 + 1, none⟩) hb).trans hc1
      have q2 := (hbl.cell (p := ⟨b, off + k * 5 + 2, none⟩) hb).trans hc2
      have q3 := (hbl.cell (p := ⟨b, off + k * 5 + 3, none⟩) hb).trans hc3
      have q4 := (hbl.cell (p := ⟨b, off + k * 5 + 4, none⟩) hb).trans hc4
      clear hc0 hc1 hc2 hc3 hc4
      have cT := Lib.hid (fun w' => turns_any (rowAt L k) w')
      have HB := Lib.hid hbl
      clear hbl
      generalize turnsB (rowAt L k) = tb at *
      generalize rowAt L k = x at *
      obtain ⟨lo, hi, d0, d1, d2⟩ := x
      unfold rowAgg at cT
      dsimp only at q0 q1 q2 q3 q4 cT
      go_wp2_with fail
      refine (cT.out _).mono ?_
      rintro e w1 ⟨rfl, hb1⟩
      have HB1 := Lib.hid ((HB.out.alloc hsz _).trans (hb1.mono (show w.heap.size ≤ _ by simp; omega)))
      clear hb1 q0 q1 q2 q3 q4
      cases tb
      · have HV := Lib.hid (HSTEP.out rfl)
        clear HSTEP HBAD
        go_wp2_with fail
        go_roundw
        case rel => exact ⟨k + 1, by omega, by go_num, HV.out, HB1.out⟩
        case measure => simp [intOf]; omega
      · have HV := Lib.hid (HBAD.out rfl)
        clear HSTEP HBAD
        go_wp2_with fail
        go_ret
        exact ⟨by rw [HV.out]; rfl, HB1.out⟩
    · have HV := Lib.hid (any_none (L := L) (fun j hj => hok j (by omega)))
      have HB := Lib.hid hbl
      clear hok hbl hT
      go_wp2
      go_ret
      exact ⟨by rw [HV.out]; rfl, HB.out⟩

set_option maxHeartbeats 1000000 in
set_option maxRecDepth 1000000 in
theorem at_any (L : List Rw) (A : Option Addr) (cap : Nat) (r : Int) (w : World) (hT : RowsAt w A L) (hu : U32Ok L) (hr : r ≤ 2147483647) (hn : L.length ≤ 9223372036854775807) :
    Calls Tryd.prog 25 #[.slice A L.length cap, .int .i32 r] w fun e w' => e = .returned (.int .i64 (atM L r)) ∧ Below w.heap.size w w' := by
  go_enter Tryd.func25, Tryd.ntmps25
  go_wp2
  go_loopw [9] (fun i wr => ∃ k : Nat, k ≤ L.length ∧ i = .int .i64 k ∧ (∀ j, j < k → hasB (rowAt L j) r = false) ∧ Below w.heap.size w wr) (fun i _ => L.length - (intOf i).toNat)
  case atStart => exact ⟨0, Nat.zero_le _, rfl, fun j hj => absurd hj (by omega), Below.refl _ _⟩
  case round =>
    obtain ⟨k, hk, rfl, hok, hbl⟩ := hrel
    have hsz := hbl.size
    by_cases hlt : k < L.length
    · obtain ⟨b, off, rfl, hb, hc0, hc1, hc2, hc3, hc4⟩ := hT.row hlt
      have HBAD := Lib.hid (fun (h : hasB (rowAt L k) r = true) => atM_found hlt h hok)
      have HSTEP : Hid (hasB (rowAt L k) r = false → ∀ j, j < k + 1 → hasB (rowAt L j) r = false) := fun h j hj => by
        rcases Nat.lt_or_ge j k with h' | h'
        · exact hok j h'
        · obtain rfl : j = k := by omega
          exact h
      clear hok hT
      have q0 := (hbl.cell (p := ⟨b, off + k * 5, none⟩) hb).trans hc0
      have q1 := (hbl.cell (p := ⟨b, off + k * 5 + 1, none⟩) hb).trans hc1
      have q2 := (hbl.cell (p := ⟨b, off + k * 5 + 2, none⟩) hb).trans hc2
      have q3 := (hbl.cell (p := ⟨b, off + k * 5 + 3, none⟩) hb).trans hc3
      have q4 := (hbl.cell (p := ⟨b, off + k * 5 + 4, none⟩) hb).trans hc4
      clear hc0 hc1 hc2 hc3 hc4
      have cT := Lib.hid (fun w' => has_any (rowAt L k) r w' (hu k hlt).1 (hu k hlt).2 hr)
      have HB := Lib.hid hbl
      clear hbl hu
      generalize hasB (rowAt L k) r = tb at *
      generalize rowAt L k = x at *
      obtain ⟨lo, hi, d0, d1, d2⟩ := x
      unfold rowAgg at cT
      dsimp only at q0 q1 q2 q3 q4 cT
      go_wp2_with fail
      refine (cT.out _).mono ?_
      rintro e w1 ⟨rfl, hb1⟩
      have HB1 := Lib.hid ((HB.out.alloc hsz _).trans (hb1.mono (show w.heap.size ≤ _ by simp; omega)))
      clear hb1 q0 q1 q2 q3 q4
      cases tb
      · have HV := Lib.hid (HSTEP.out rfl)
        clear HSTEP HBAD
        go_wp2_with fail
        go_roundw
        case rel => exact ⟨k + 1, by omega, by go_num, HV.out, HB1.out⟩
        case measure => simp [intOf]; omega
      · have HV := Lib.hid (HBAD.out rfl)
        clear HSTEP HBAD
        go_wp2_with fail
        go_ret
        exact ⟨by rw [HV.out]; rfl, HB1.out⟩
    · have HV := Lib.hid (atM_none (L := L) (r := r) (fun j hj => hok j (by omega)))
      have HB := Lib.hid hbl
      clear hok hbl hT hu
      go_wp2
      go_ret
      exact ⟨by rw [HV.out]; rfl, HB.out⟩

/-- What spec.Mapped answers of a row that has the number. -/
def mapRow (x : Rw) (c : Nat) (r : Int) : Int := if turnsB x then (if c = 1 then wrap32 (r - (r - x.1) % 2 + 1) else r - (r - x.1) % 2) else wrap32 (r + dlt x c)

theorem hasB_iff {x : Rw} {r : Int} : hasB x r = true ↔ hasR x r := by
  unfold hasB hasR
  simp only [Bool.and_eq_true, decide_eq_true_eq]
  constructor
  · rintro ⟨⟨_, h2⟩, h3⟩; exact ⟨h2, h3⟩
  · rintro ⟨h2, h3⟩; exact ⟨⟨by omega, h2⟩, h3⟩

set_option maxHeartbeats 2000000 in
set_option maxRecDepth 1000000 in
theorem mapped_none (L : List Rw) (A : Option Addr) (cap : Nat) (z r : Int) (w : World) (hT : RowsAt w A L) (hu : U32Ok L) (hr : r ≤ 2147483647) (hn : L.length ≤ 9223372036854775807)
    (h : atM L r = -1) :
    Calls Tryd.prog 35 #[.slice A L.length cap, .int .i64 z, .int .i32 r] w fun e w' => e = .returned (.tuple #[.int .i32 0, .bool false]) ∧ Below w.heap.size w w' := by
  have cA := Lib.hid (at_any L A cap r w hT hu hr hn)
  rw [h] at cA
  clear hT hu h
  go_enter Tryd.func35, Tryd.ntmps35
  go_wp2_with fail
  refine (cA.out).mono ?_
  rintro e w1 ⟨rfl, hb1⟩
  have HB1 := Lib.hid hb1
  clear hb1
  go_wp2_with fail
  go_ret2
  exact ⟨rfl, HB1.out⟩

set_option maxHeartbeats 2000000 in
set_option maxRecDepth 1000000 in
theorem mapped_some (L : List Rw) (A : Option Addr) (cap : Nat) (z r : Int) (h0 : 0 ≤ z) (h3 : z < 3) (w : World) (hT : RowsAt w A L) (hu : U32Ok L) (hr0 : -2147483648 ≤ r) (hr : r ≤ 2147483647) (hn : L.length ≤ 9223372036854775807)
    {k : Nat} (hk : k < L.length) (hb : hasR (rowAt L k) r) (h : atM L r = k) :
    Calls Tryd.prog 35 #[.slice A L.length cap, .int .i64 z, .int .i32 r] w fun e w' => e = .returned (.tuple #[.int .i32 (mapRow (rowAt L k) z.toNat r), .bool true]) ∧ Below w.heap.size w w' := by
  have cA := Lib.hid (at_any L A cap r w hT hu hr hn)
  rw [h] at cA
  obtain ⟨b, off, rfl, hbl, hc0, hc1, hc2, hc3, hc4⟩ := hT.row hk
  have cT := Lib.hid (fun w' => turns_any (rowAt L k) w')
  unfold mapRow
  clear hT hu h
  obtain ⟨hb0, hb1⟩ := hb
  generalize rowAt L k = x at *
  generalize turnsB x = tb at *
  obtain ⟨lo, hi, d0, d1, d2⟩ := x
  unfold rowAgg at cT
  dsimp only at hc0 hc1 hc2 hc3 hc4 cT hb0 hb1 ⊢
  have hd : (z = 0 ∧ dlt (lo, hi, d0, d1, d2) z.toNat = d0) ∨ (z = 1 ∧ dlt (lo, hi, d0, d1, d2) z.toNat = d1) ∨ (z = 2 ∧ dlt (lo, hi, d0, d1, d2) z.toNat = d2) := by
    have : z = 0 ∨ z = 1 ∨ z = 2 := by omega
    rcases this with rfl | rfl | rfl
    · exact .inl ⟨rfl, rfl⟩
    · exact .inr (.inl ⟨rfl, rfl⟩)
    · exact .inr (.inr ⟨rfl, rfl⟩)
  go_enter Tryd.func35, Tryd.ntmps35
  go_wp2_with fail
  refine (cA.out).mono ?_
  rintro e w1 ⟨rfl, hbw⟩
  have q0 := (hbw.cell (p := ⟨b, off + k * 5, none⟩) hbl).trans hc0
  have q1 := (hbw.cell (p := ⟨b, off + k * 5 + 1, none⟩) hbl).trans hc1
  have q2 := (hbw.cell (p := ⟨b, off + k * 5 + 2, none⟩) hbl).trans hc2
  have q3 := (hbw.cell (p := ⟨b, off + k * 5 + 3, none⟩) hbl).trans hc3
  have q4 := (hbw.cell (p := ⟨b, off + k * 5 + 4, none⟩) hbl).trans hc4
  have hs1 := hbw.size
  have HB1 := Lib.hid hbw
  have HD := Lib.hid hd
  clear hbw hc0 hc1 hc2 hc3 hc4 cA hd
  go_wp2_with fail
  refine (cT.out _).mono ?_
  rintro e w2 ⟨rfl, hb2⟩
  have z0 : w2.cell? ⟨w1.heap.size, 0, none⟩ = some (.int .u32 lo) := (hb2.cell (p := ⟨w1.heap.size, 0, none⟩) (by simp)).trans (cell_new w1 _ 42 0 0)
  have z2 : w2.cell? ⟨w1.heap.size, 2, none⟩ = some (.int .i32 d0) := (hb2.cell (p := ⟨w1.heap.size, 2, none⟩) (by simp)).trans (cell_new w1 _ 42 0 2)
  have z3 : w2.cell? ⟨w1.heap.size, 3, none⟩ = some (.int .i32 d1) := (hb2.cell (p := ⟨w1.heap.size, 3, none⟩) (by simp)).trans (cell_new w1 _ 42 0 3)
  have z4 : w2.cell? ⟨w1.heap.size, 4, none⟩ = some (.int .i32 d2) := (hb2.cell (p := ⟨w1.heap.size, 4, none⟩) (by simp)).trans (cell_new w1 _ 42 0 4)
  have HB2 := Lib.hid ((HB1.out.alloc hs1 _).trans (hb2.mono (show w.heap.size ≤ _ by simp; omega)))
  clear hb2 q0 q1 q2 q3 q4 cT
  cases tb
  · rcases HD.out with ⟨rfl, hd⟩ | ⟨rfl, hd⟩ | ⟨rfl, hd⟩
    all_goals
      clear hd HD
      go_wp2_with fail
      go_ret2
      exact ⟨rfl, HB2.out⟩
  · have hlo0 : 0 ≤ r := by omega
    by_cases h1 : z = 1
    · subst h1
      go_wp2_with fail
      go_ret2
      exact ⟨rfl, HB2.out⟩
    · have t1 : (z == 1) = false := by simpa using h1
      have ht : ¬ z.toNat = 1 := by omega
      clear h1
      go_wp2_with fail
      go_ret2
      exact ⟨by first | rfl | (rw [if_pos rfl, if_neg ht]; rfl), HB2.out⟩
end Go.Proofs.YtdabmoekhobgiaaDoor
