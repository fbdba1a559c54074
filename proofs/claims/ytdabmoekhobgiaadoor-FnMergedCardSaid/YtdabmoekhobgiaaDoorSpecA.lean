/-
  Contracts of spec.Range's methods ByTurns, leads and Has. Conditions: the numbers fit their kinds.
-/
import Derived.Test.YtdabmoekhobgiaaDoorMem
import Derived.LoopN
import Derived.WalkLawsBesides
namespace Go.Proofs.YtdabmoekhobgiaaDoor
open Go.RowKit

theorem isAgg21 (w : World) : (isAgg 21).run Tryd.prog w = .ok false w := by kernel_rfl
theorem size21 (w : World) : (Go.sizeOf 21).run Tryd.prog w = .ok 1 w := by kernel_rfl
theorem part21 (xs : Array Value) (i : Nat) (v : Value) (h : xs[i]? = some v) (w : World) : (part 21 xs i).run Tryd.prog w = .ok v w := by
  simp [part, h]
theorem run_eq24 (d : Nat) (a b c a' b' c' : Int) (w : World) : (Op.equalIn (d + 2) 24 (.agg #[.int .i32 a, .int .i32 b, .int .i32 c]) (.agg #[.int .i32 a', .int .i32 b', .int .i32 c'])).run Tryd.prog w = .ok (a == a' && b == b' && c == c') w := by
  unfold Op.equalIn
  simp only [Sem.run_bind, run_underlying Tryd.underlying24, Result.andThen_ok, size21]
  have e : ∀ (x y : Int) (w : World), (Op.equalIn (d + 1) 21 (.int .i32 x) (.int .i32 y)).run Tryd.prog w = .ok (x == y) w := fun x y w => run_equalIn_int w d 21 .i32 .i32 x y Tryd.underlying21
  have r3 : List.range' 0 3 = [0, 1, 2] := rfl
  have p0 : ∀ (x y z : Int) (w : World), (part 21 #[.int .i32 x, .int .i32 y, .int .i32 z] 0).run Tryd.prog w = .ok (.int .i32 x) w := fun _ _ _ w => part21 _ _ _ rfl w
  have p1 : ∀ (x y z : Int) (w : World), (part 21 #[.int .i32 x, .int .i32 y, .int .i32 z] 1).run Tryd.prog w = .ok (.int .i32 y) w := fun _ _ _ w => part21 _ _ _ rfl w
  have p2 : ∀ (x y z : Int) (w : World), (part 21 #[.int .i32 x, .int .i32 y, .int .i32 z] 2).run Tryd.prog w = .ok (.int .i32 z) w := fun _ _ _ w => part21 _ _ _ rfl w
  simp [r3, p0, p1, p2, e]
  by_cases h1 : a = a' <;> by_cases h2 : b = b' <;> by_cases h3 : c = c' <;> simp [h1, h2, h3]

theorem run_turns (a b c : Int) (w : World) : (binOp .eql 24 (.agg #[.int .i32 a, .int .i32 b, .int .i32 c]) (.agg #[.int .i32 1114112, .int .i32 1114112, .int .i32 1114112])).run Tryd.prog w = .ok (.bool (a == 1114112 && b == 1114112 && c == 1114112)) w := by
  rw [run_eql_struct, run_eq24 9998]
  rfl
theorem run_eq24' (a b c a' b' c' : Int) (w : World) : (Op.equalIn 10000 24 (.agg #[.int .i32 a, .int .i32 b, .int .i32 c]) (.agg #[.int .i32 a', .int .i32 b', .int .i32 c'])).run Tryd.prog w = .ok (a == a' && b == b' && c == c') w := run_eq24 9998 a b c a' b' c' w

def rowAgg (x : Rw) : Value := .agg #[.int .u32 x.1, .int .u32 x.2.1, .int .i32 x.2.2.1, .int .i32 x.2.2.2.1, .int .i32 x.2.2.2.2]
def turnsB (x : Rw) : Bool := x.2.2.1 == 1114112 && x.2.2.2.1 == 1114112 && x.2.2.2.2 == 1114112
def leadB (lo hi : Nat) (d : Int) : Bool := decide (-1114111 ≤ d) && decide (d ≤ 1114111) && decide (0 ≤ (lo : Int) + d) && decide ((hi : Int) + d ≤ 1114111)
def leadsB (x : Rw) : Bool := leadB x.1 x.2.1 x.2.2.1 && leadB x.1 x.2.1 x.2.2.2.1 && leadB x.1 x.2.1 x.2.2.2.2
def hasB (x : Rw) (r : Int) : Bool := decide (0 ≤ r) && decide ((x.1 : Int) ≤ r) && decide (r ≤ (x.2.1 : Int))

set_option maxHeartbeats 1000000 in
theorem turns_any (x : Rw) (w : World) : Calls Tryd.prog 43 #[rowAgg x] w fun e w' => e = .returned (.bool (turnsB x)) ∧ Below w.heap.size w w' := by
  obtain ⟨x0, x1, x2, x3, x4⟩ := x
  unfold rowAgg turnsB
  dsimp only
  have he := run_turns x2 x3 x4
  go_enter Tryd.func43, Tryd.ntmps43
  go_wp2
  go_ret
  exact ⟨rfl, (Below.refl _ _).alloc (Nat.le_refl _) _⟩

theorem lead_ways {lo hi : Nat} {d : Int} (h : leadB lo hi d = false) :
    d < -1114111 ∨ (-1114111 ≤ d ∧ 1114111 < d) ∨ (-1114111 ≤ d ∧ d ≤ 1114111 ∧ (lo : Int) + d < 0) ∨ (-1114111 ≤ d ∧ d ≤ 1114111 ∧ 0 ≤ (lo : Int) + d ∧ 1114111 < (hi : Int) + d) := by
  simp only [leadB, Bool.and_eq_false_iff, decide_eq_false_iff_not] at h
  omega
theorem lead_true {lo hi : Nat} {d : Int} (h : leadB lo hi d = true) : -1114111 ≤ d ∧ d ≤ 1114111 ∧ 0 ≤ (lo : Int) + d ∧ (hi : Int) + d ≤ 1114111 := by
  simp only [leadB, Bool.and_eq_true, decide_eq_true_eq] at h
  omega

set_option maxHeartbeats 4000000 in
theorem leads_any (x : Rw) (w : World) (hlo : x.1 < 4294967296) (hhi : x.2.1 < 4294967296) : Calls Tryd.prog 44 #[rowAgg x] w fun e w' => e = .returned (.bool (leadsB x)) ∧ Below w.heap.size w w' := by
  obtain ⟨lo, hi, d0, d1, d2⟩ := x
  unfold rowAgg leadsB
  dsimp only at *
  have i0 : ∀ w, (Instr.index 24 (.agg #[.int .i32 d0, .int .i32 d1, .int .i32 d2]) (.int .i64 0)).run Tryd.prog w = .ok (.int .i32 d0) w := fun _ => by kernel_rfl
  have i1 : ∀ w, (Instr.index 24 (.agg #[.int .i32 d0, .int .i32 d1, .int .i32 d2]) (.int .i64 1)).run Tryd.prog w = .ok (.int .i32 d1) w := fun _ => by kernel_rfl
  have i2 : ∀ w, (Instr.index 24 (.agg #[.int .i32 d0, .int .i32 d1, .int .i32 d2]) (.int .i64 2)).run Tryd.prog w = .ok (.int .i32 d2) w := fun _ => by kernel_rfl
  go_enter Tryd.func44, Tryd.ntmps44
  go_wp2
  go_loop [7] (fun i => ∃ k : Nat, k ≤ 3 ∧ i = .int .i64 k ∧ (0 < k → leadB lo hi d0 = true) ∧ (1 < k → leadB lo hi d1 = true) ∧ (2 < k → leadB lo hi d2 = true)) (fun i => 3 - (intOf i).toNat)
  case atStart => exact ⟨0, by omega, rfl, fun h => absurd h (by omega), fun h => absurd h (by omega), fun h => absurd h (by omega)⟩
  case round =>
    obtain ⟨k, hk, rfl, g0, g1, g2⟩ := hrel
    have hk4 : k = 0 ∨ k = 1 ∨ k = 2 ∨ k = 3 := by omega
    rcases hk4 with rfl | rfl | rfl | rfl
    · rw [show ((0 : Nat) : Int) = 0 from rfl]
      have G := Lib.hid (And.intro g0 (And.intro g1 g2))
      clear g0 g1 g2
      by_cases h : leadB lo hi d0 = true
      · have HL := Lib.hid h
        obtain ⟨a1, a2, a3, a4⟩ := lead_true h
        clear h
        go_wp2
        go_round
        case rel => exact ⟨1, by omega, rfl, fun _ => HL.out, fun h => absurd h (by omega), fun h => absurd h (by omega)⟩
        case measure => simp [intOf]
      · have h' : leadB lo hi d0 = false := by simpa using h
        have HL := Lib.hid h'
        clear h
        rcases lead_ways h' with a | ⟨a, a1⟩ | ⟨a, a1, a2⟩ | ⟨a, a1, a2, a3⟩
        all_goals
          clear h'
          go_wp2
          go_ret
          exact ⟨by rw [HL.out]; rfl, (Below.refl _ _).alloc (Nat.le_refl _) _⟩
    · rw [show ((1 : Nat) : Int) = 1 from rfl]
      have G := Lib.hid (And.intro g0 (And.intro g1 g2))
      clear g0 g1 g2
      by_cases h : leadB lo hi d1 = true
      · have HL := Lib.hid h
        obtain ⟨a1, a2, a3, a4⟩ := lead_true h
        clear h
        go_wp2
        go_round
        case rel => exact ⟨2, by omega, rfl, fun _ => G.out.1 (by omega), fun _ => HL.out, fun h => absurd h (by omega)⟩
        case measure => simp [intOf]
      · have h' : leadB lo hi d1 = false := by simpa using h
        have HL := Lib.hid h'
        clear h
        rcases lead_ways h' with a | ⟨a, a1⟩ | ⟨a, a1, a2⟩ | ⟨a, a1, a2, a3⟩
        all_goals
          clear h'
          go_wp2
          go_ret
          exact ⟨by rw [HL.out, Bool.and_false, Bool.false_and]; rfl, (Below.refl _ _).alloc (Nat.le_refl _) _⟩
    · rw [show ((2 : Nat) : Int) = 2 from rfl]
      have G := Lib.hid (And.intro g0 (And.intro g1 g2))
      clear g0 g1 g2
      by_cases h : leadB lo hi d2 = true
      · have HL := Lib.hid h
        obtain ⟨a1, a2, a3, a4⟩ := lead_true h
        clear h
        go_wp2
        go_round
        case rel => exact ⟨3, by omega, rfl, fun _ => G.out.1 (by omega), fun _ => G.out.2.1 (by omega), fun _ => HL.out⟩
        case measure => simp [intOf]
      · have h' : leadB lo hi d2 = false := by simpa using h
        have HL := Lib.hid h'
        clear h
        rcases lead_ways h' with a | ⟨a, a1⟩ | ⟨a, a1, a2⟩ | ⟨a, a1, a2, a3⟩
        all_goals
          clear h'
          go_wp2
          go_ret
          exact ⟨by rw [HL.out, Bool.and_false]; rfl, (Below.refl _ _).alloc (Nat.le_refl _) _⟩
    · rw [show ((3 : Nat) : Int) = 3 from rfl]
      have G := Lib.hid (And.intro (g0 (by omega)) (And.intro (g1 (by omega)) (g2 (by omega))))
      clear g0 g1 g2
      go_wp2
      go_ret
      exact ⟨by rw [G.out.1, G.out.2.1, G.out.2.2]; rfl, (Below.refl _ _).alloc (Nat.le_refl _) _⟩

set_option maxHeartbeats 4000000 in
theorem has_any (x : Rw) (r : Int) (w : World) (hlo : x.1 < 4294967296) (hhi : x.2.1 < 4294967296) (hr : r ≤ 2147483647) : Calls Tryd.prog 45 #[rowAgg x, .int .i32 r] w fun e w' => e = .returned (.bool (hasB x r)) ∧ Below w.heap.size w w' := by
  obtain ⟨lo, hi, d0, d1, d2⟩ := x
  unfold rowAgg hasB
  dsimp only at *
  rcases Int.lt_or_le r 0 with h1 | h1
  · have e1 : decide (0 ≤ r) = false := by simp; omega
    go_enter Tryd.func45, Tryd.ntmps45
    go_wp2
    go_ret
    exact ⟨by simp; omega, (Below.refl _ _).alloc (Nat.le_refl _) _⟩
  rcases Int.lt_or_le r lo with h2 | h2
  · have e1 : decide (0 ≤ r) = true := by simp; omega
    have e2 : decide ((lo : Int) ≤ r) = false := by simp; omega
    go_enter Tryd.func45, Tryd.ntmps45
    go_wp2
    go_ret
    exact ⟨by simp; omega, (Below.refl _ _).alloc (Nat.le_refl _) _⟩
  rcases Int.lt_or_le hi r with h3 | h3
  · have e1 : decide (0 ≤ r) = true := by simp; omega
    have e2 : decide ((lo : Int) ≤ r) = true := by simp; omega
    have e3 : decide (r ≤ (hi : Int)) = false := by simp; omega
    go_enter Tryd.func45, Tryd.ntmps45
    go_wp2
    go_ret
    exact ⟨by simp; omega, (Below.refl _ _).alloc (Nat.le_refl _) _⟩
  · have e1 : decide (0 ≤ r) = true := by simp; omega
    have e2 : decide ((lo : Int) ≤ r) = true := by simp; omega
    have e3 : decide (r ≤ (hi : Int)) = true := by simp; omega
    go_enter Tryd.func45, Tryd.ntmps45
    go_wp2
    go_ret
    exact ⟨by simp; omega, (Below.refl _ _).alloc (Nat.le_refl _) _⟩
end Go.Proofs.YtdabmoekhobgiaaDoor
