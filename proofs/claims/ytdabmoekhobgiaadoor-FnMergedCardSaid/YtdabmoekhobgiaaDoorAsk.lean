/-
  Contracts of impl.Upper, Lower, Title and of laws.ask, pick, divisor. Conditions: the list lies in memory, its bounds are runes, it has at most a thousand million rows; unicode.CaseRanges holds the library's table.
-/
import Derived.Test.YtdabmoekhobgiaaDoorSpecial
namespace Go.Proofs.YtdabmoekhobgiaaDoor
open Go.RowKit

set_option maxHeartbeats 1000000 in
theorem implUpper_any (r : Int) (L : List Rw) (A : Option Addr) (cap : Nat) (w : World) (hV : CaseV w) (hT : RowsAt w A L) (hok : RuneOk L) (hn : L.length ≤ 1000000000) :
    Calls Tryd.prog 18 #[.slice A L.length cap, .int .i32 r] w fun e w' => e = .returned (.int .i32 (askM L 0 r)) ∧ Below w.heap.size w w' := by
  have cS := Lib.hid (special_any L A cap w hT (by omega))
  have cU := Lib.hid (fun A' cap' (w' : World) (h : RowsAt w' A' L) (hb : Below w.heap.size w w') => specialToUpper_any r L A' cap' w' (hV.below hb (Nat.le_refl _)) h hok hn)
  clear hV hT hok hn
  generalize askM L 0 r = ans at *
  go_enter Tryd.func18, Tryd.ntmps18
  go_wp2_with (first
    | (go_at_call 40; go_must (refine (cS.out).mono ?_; rintro e w1 ⟨A', cap', rfl, h1, hb1⟩; have H1 := Lib.hid h1; have HB1 := Lib.hid hb1; clear h1 hb1))
    | (go_at_call 41; go_must (refine (cU.out _ _ _ H1.out HB1.out).mono ?_; rintro e w' ⟨rfl, q, rfl⟩)))
  go_ret
  exact ⟨rfl, below_drewN HB1.out _⟩

set_option maxHeartbeats 1000000 in
theorem implLower_any (r : Int) (L : List Rw) (A : Option Addr) (cap : Nat) (w : World) (hV : CaseV w) (hT : RowsAt w A L) (hok : RuneOk L) (hn : L.length ≤ 1000000000) :
    Calls Tryd.prog 19 #[.slice A L.length cap, .int .i32 r] w fun e w' => e = .returned (.int .i32 (askM L 1 r)) ∧ Below w.heap.size w w' := by
  have cS := Lib.hid (special_any L A cap w hT (by omega))
  have cU := Lib.hid (fun A' cap' (w' : World) (h : RowsAt w' A' L) (hb : Below w.heap.size w w') => specialToLower_any r L A' cap' w' (hV.below hb (Nat.le_refl _)) h hok hn)
  clear hV hT hok hn
  generalize askM L 1 r = ans at *
  go_enter Tryd.func19, Tryd.ntmps19
  go_wp2_with (first
    | (go_at_call 40; go_must (refine (cS.out).mono ?_; rintro e w1 ⟨A', cap', rfl, h1, hb1⟩; have H1 := Lib.hid h1; have HB1 := Lib.hid hb1; clear h1 hb1))
    | (go_at_call 42; go_must (refine (cU.out _ _ _ H1.out HB1.out).mono ?_; rintro e w' ⟨rfl, q, rfl⟩)))
  go_ret
  exact ⟨rfl, below_drewN HB1.out _⟩

set_option maxHeartbeats 1000000 in
theorem implTitle_any (r : Int) (L : List Rw) (A : Option Addr) (cap : Nat) (w : World) (hV : CaseV w) (hT : RowsAt w A L) (hok : RuneOk L) (hn : L.length ≤ 1000000000) :
    Calls Tryd.prog 26 #[.slice A L.length cap, .int .i32 r] w fun e w' => e = .returned (.int .i32 (askM L 2 r)) ∧ Below w.heap.size w w' := by
  have cS := Lib.hid (special_any L A cap w hT (by omega))
  have cU := Lib.hid (fun A' cap' (w' : World) (h : RowsAt w' A' L) (hb : Below w.heap.size w w') => specialToTitle_any r L A' cap' w' (hV.below hb (Nat.le_refl _)) h hok hn)
  clear hV hT hok hn
  generalize askM L 2 r = ans at *
  go_enter Tryd.func26, Tryd.ntmps26
  go_wp2_with (first
    | (go_at_call 40; go_must (refine (cS.out).mono ?_; rintro e w1 ⟨A', cap', rfl, h1, hb1⟩; have H1 := Lib.hid h1; have HB1 := Lib.hid hb1; clear h1 hb1))
    | (go_at_call 46; go_must (refine (cU.out _ _ _ H1.out HB1.out).mono ?_; rintro e w' ⟨rfl, q, rfl⟩)))
  go_ret
  exact ⟨rfl, below_drewN HB1.out _⟩

set_option maxHeartbeats 1000000 in
theorem ask_any (z r : Int) (h0 : 0 ≤ z) (h3 : z < 3) (L : List Rw) (A : Option Addr) (cap : Nat) (w : World) (hV : CaseV w) (hT : RowsAt w A L) (hok : RuneOk L) (hn : L.length ≤ 1000000000) :
    Calls Tryd.prog 17 #[.slice A L.length cap, .int .i64 z, .int .i32 r] w fun e w' => e = .returned (.int .i32 (askM L z.toNat r)) ∧ Below w.heap.size w w' := by
  have hz : z = 0 ∨ z = 1 ∨ z = 2 := by omega
  rcases hz with rfl | rfl | rfl
  · have cT := Lib.hid (implUpper_any r L A cap w hV hT hok hn)
    clear hV h0 h3 hT hok hn
    show Calls _ _ _ _ fun e w' => e = .returned (.int .i32 (askM L 0 r)) ∧ _
    generalize askM L 0 r = ans at *
    go_enter Tryd.func17, Tryd.ntmps17
    go_wp2_with (go_at_call 18; go_must (refine (cT.out).mono ?_; rintro e w1 ⟨rfl, hb1⟩; have HB1 := Lib.hid hb1; clear hb1))
    go_ret
    exact ⟨rfl, HB1.out⟩
  · have cT := Lib.hid (implLower_any r L A cap w hV hT hok hn)
    clear hV h0 h3 hT hok hn
    show Calls _ _ _ _ fun e w' => e = .returned (.int .i32 (askM L 1 r)) ∧ _
    generalize askM L 1 r = ans at *
    go_enter Tryd.func17, Tryd.ntmps17
    go_wp2_with (go_at_call 19; go_must (refine (cT.out).mono ?_; rintro e w1 ⟨rfl, hb1⟩; have HB1 := Lib.hid hb1; clear hb1))
    go_ret
    exact ⟨rfl, HB1.out⟩
  · have cT := Lib.hid (implTitle_any r L A cap w hV hT hok hn)
    clear hV h0 h3 hT hok hn
    show Calls _ _ _ _ fun e w' => e = .returned (.int .i32 (askM L 2 r)) ∧ _
    generalize askM L 2 r = ans at *
    go_enter Tryd.func17, Tryd.ntmps17
    go_wp2_with (go_at_call 26; go_must (refine (cT.out).mono ?_; rintro e w1 ⟨rfl, hb1⟩; have HB1 := Lib.hid hb1; clear hb1))
    go_ret
    exact ⟨rfl, HB1.out⟩

theorem tmod_pick (s n : Int) : (s.tmod n + n) % n = s % n := by
  rw [Int.add_emod_right]
  have h3 : s = n * s.tdiv n + s.tmod n := (Int.mul_tdiv_add_tmod s n).symm
  conv => rhs; rw [h3, Int.add_emod, Int.mul_emod_right, Int.zero_add, Int.emod_emod_of_dvd _ (Int.dvd_refl n)]

set_option maxHeartbeats 1000000 in
theorem pick_any (s n : Int) (h0 : 1 ≤ n) (h1 : n ≤ 4000000000000000000) (w : World) :
    Calls Tryd.prog 16 #[.int .i64 s, .int .i64 n] w fun e w' => e = .returned (.int .i64 (s % n)) ∧ w = w' := by
  have h := Lib.hid (tmod_pick s n)
  have b1 := Int.lt_tmod_of_pos s (show 0 < n by omega)
  have b2 := Int.tmod_lt_of_pos s (show 0 < n by omega)
  go_enter Tryd.func16, Tryd.ntmps16
  go_wp2
  go_ret
  refine ⟨?_, rfl⟩
  rw [← h.out]
  rfl
end Go.Proofs.YtdabmoekhobgiaaDoor
