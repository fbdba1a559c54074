/-
  The walk of laws.FnTurnsSettle: it returns true for every input. Conditions: the slice of steps lies in memory; unicode.CaseRanges holds the library's table.
-/
import Derived.Test.YtdabmoekhobgiaaDoorAsk
namespace Go.Proofs.YtdabmoekhobgiaaDoor
open Go.RowKit

def turns1 (lo n : Nat) : List Rw := [(lo, lo + 2 * n - 1, 1114112, 1114112, 1114112)]
theorem turns1_srt {lo n : Nat} (hn : 1 ≤ n) : Srt (turns1 lo n) := by
  refine Srt.of_next (fun i hi => ?_) (fun i hi => ?_)
  · match i, hi with
    | 0, _ => show lo ≤ lo + 2 * n - 1; omega
  · simp [turns1] at hi
theorem turns1_ok {lo n : Nat} (h : lo + 2 * n ≤ 1114112) : RuneOk (turns1 lo n) := by
  intro i hi
  match i, hi with
  | 0, _ => show lo < _ ∧ lo + 2 * n - 1 < _; omega
theorem turns1_ask {lo n : Nat} (hn : 1 ≤ n) (h : lo + 2 * n ≤ 1114112) {c : Nat} (hc : c < 2) {r r' : Int} (h0 : (lo : Int) ≤ r) (h1 : r < lo + 2 * n) (hp : (r - lo) / 2 = (r' - lo) / 2) :
    askM (turns1 lo n) c r = (lo : Int) + (r' - lo) / 2 * 2 + c := by
  rw [askM_in (turns1_srt hn) (i := 0) (by simp [turns1]) (by show (lo : Int) ≤ _ ∧ _ ≤ ((lo + 2 * n - 1 : Nat) : Int); omega)]
  show wrap32 (cv c _ (lo, lo + 2 * n - 1, 1114112, 1114112, 1114112)) = _
  unfold cv
  rw [dlt_same, if_pos (by omega)]
  dsimp only
  rw [wrap32_in (by omega) (by omega)]
  omega

set_option maxHeartbeats 4000000 in
/-- The ways on which the law says nothing. -/
theorem turns_out (lo n r : Int) (A : Option Addr) (len cap : Nat) (w : World) (h : lo < 0 ∨ (0 ≤ lo ∧ n < 1) ∨ (0 ≤ lo ∧ 1 ≤ n ∧ 1114111 < n) ∨ (0 ≤ lo ∧ 1 ≤ n ∧ n ≤ 1114111 ∧ lo ≤ 2147483647 ∧ 1114112 < lo + 2 * n) ∨
      (0 ≤ lo ∧ 1 ≤ n ∧ n ≤ 1114111 ∧ lo + 2 * n ≤ 1114112 ∧ r < lo) ∨ (0 ≤ lo ∧ 1 ≤ n ∧ n ≤ 1114111 ∧ lo + 2 * n ≤ 1114112 ∧ lo ≤ r ∧ r ≤ 2147483647 ∧ lo + 2 * n ≤ r)) :
    Calls Tryd.prog 4 #[.int .i32 lo, .int .i64 n, .slice A len cap, .int .i32 r] w fun e w' => e = .returned (.bool true) ∧ Below w.heap.size w w' := by
  rcases h with h | ⟨h1, h2⟩ | ⟨h1, h2, h3⟩ | ⟨h1, h2, h3, h4, h5⟩ | ⟨h1, h2, h3, h4, h5⟩ | ⟨h1, h2, h3, h4, h5, h6, h7⟩
  all_goals
    go_enter Tryd.func4, Tryd.ntmps4
    go_wp2
    go_ret
    exact ⟨rfl, by first | exact Below.refl _ _ | exact (Below.refl _ _).alloc (Nat.le_refl _) _⟩

set_option maxHeartbeats 1000000 in
set_option maxRecDepth 1000000 in
theorem turns_in (lo n : Nat) (r : Int) (zs : List Int) (A : Option Addr) (len cap : Nat) (w : World) (hV : CaseV w) (hS : IntsAt w A zs) (hzl : len ≤ 9223372036854775807) (hzs : zs.length = len)
    (h1 : 1 ≤ n) (h2 : lo + 2 * n ≤ 1114112) (h3 : (lo : Int) ≤ r) (h4 : r < (lo : Int) + 2 * n) :
    Calls Tryd.prog 4 #[.int .i32 lo, .int .i64 n, .slice A len cap, .int .i32 r] w fun e w' => e = .returned (.bool true) ∧ Below w.heap.size w w' := by
  have HZS := Lib.hid hzs
  clear hzs
  go_enter Tryd.func4, Tryd.ntmps4
  go_wp2_with fail
  obtain ⟨cs, hcs⟩ : ∃ cs : Array Value, cs = #[Value.int IntKind.u32 ↑lo, Value.int IntKind.u32 (↑lo + 2 * ↑n - 1), Value.int IntKind.i32 1114112, Value.int IntKind.i32 1114112, Value.int IntKind.i32 1114112] := ⟨_, rfl⟩
  rw [← hcs]
  have hb0 : Below w.heap.size w (w.alloc (Obj.cells cs 26)) := (Below.refl _ _).alloc (Nat.le_refl _) _
  have hV0 := hV.below hb0 (Nat.le_refl _)
  have hS0 := hS.below hb0 (Nat.le_refl _)
  have hR0 : RowsAt (w.alloc (Obj.cells cs 26)) (some ⟨w.heap.size, 0, none⟩) (turns1 lo n) := by
    refine rows_new w (turns1 lo n) 26 cs ?_
    have e1 : ((lo + 2 * n - 1 : Nat) : Int) = lo + 2 * n - 1 := by omega
    rw [hcs]
    simp [cellsOf, rowCells, turns1, e1]
  generalize w.alloc (Obj.cells cs 26) = w0 at *
  clear hV hS hcs
  have HB0 := Lib.hid hb0
  have HV0 := Lib.hid hV0
  have HS0 := Lib.hid hS0
  have HR0 := Lib.hid hR0
  clear hb0 hV0 hS0 hR0
  go_loopw [10, 60] (fun at_ kk wr => ∃ (k : Nat) (q : Int), k ≤ len ∧ kk = .int .i64 k ∧ at_ = .int .i32 q ∧ (lo : Int) ≤ q ∧ q < (lo : Int) + 2 * n ∧ (q - lo) / 2 = (r - lo) / 2 ∧ CaseV wr ∧ IntsAt wr A zs ∧ RowsAt wr (some ⟨w.heap.size, 0, none⟩) (turns1 lo n) ∧ Below w.heap.size w wr)
    (fun _ kk _ => len - (intOf kk).toNat)
  case atStart => exact ⟨0, r, Nat.zero_le _, rfl, rfl, h3, h4, rfl, HV0.out, HS0.out, HR0.out, HB0.out⟩
  case round =>
    obtain ⟨k, q, hk, rfl, rfl, hq0, hq1, hq2, hV, hS, hR, hb⟩ := hrel
    have HQ2 := Lib.hid hq2
    have hszb := hb.size
    clear hq2 HB0 HV0 HS0 HR0
    by_cases hlt : k < len
    · obtain ⟨b, off, rfl, hbl, hc⟩ := hS.at_ (k := k) (by rw [HZS.out]; exact hlt)
      generalize zs.getD k 0 = z at *
      have hz0 : 0 ≤ z % 2 := by omega
      have hz1 : z % 2 < 2 := by omega
      have cA := Lib.hid (ask_any (z % 2) q (by omega) (by omega) (turns1 lo n) (some ⟨w.heap.size, 0, none⟩) 1 wr hV hR (turns1_ok h2) (by simp [turns1]))
      have cB := Lib.hid (fun w1 (hb1 : Below wr.heap.size wr w1) => ask_any (z % 2) r (by omega) (by omega) (turns1 lo n) (some ⟨w.heap.size, 0, none⟩) 1 w1 (hV.below hb1 (Nat.le_refl _)) (hR.below hb1 (Nat.le_refl _)) (turns1_ok h2) (by simp [turns1]))
      rw [turns1_ask h1 h2 (by omega) hq0 hq1 HQ2.out] at cA
      simp only [turns1_ask h1 h2 (show (z % 2).toNat < 2 by omega) h3 h4 rfl] at cB
      rw [Int.toNat_of_nonneg hz0] at cA cB
      have HREL : Hid (∀ w1, Below wr.heap.size wr w1 → CaseV w1 ∧ IntsAt w1 (some ⟨b, off, none⟩) zs ∧ RowsAt w1 (some ⟨w.heap.size, 0, none⟩) (turns1 lo n) ∧ Below w.heap.size w w1) := fun w1 hb1 =>
        ⟨hV.below hb1 (Nat.le_refl _), hS.below hb1 (Nat.le_refl _), hR.below hb1 (Nat.le_refl _), hb.trans (hb1.mono hszb)⟩
      clear hV hS hR hb
      go_wp2_with (go_at_call 16; go_must (refine (pick_any z 2 (by omega) (by omega) _).mono ?_; rintro e w' ⟨rfl, rfl⟩))
      refine (cA.out).mono ?_
      rintro e w1 ⟨rfl, hb1⟩
      have HB1 := Lib.hid hb1
      clear hb1
      go_wp2_with fail
      refine (cB.out w1 HB1.out).mono ?_
      rintro e w2 ⟨rfl, hb2⟩
      have HB2 := Lib.hid (HB1.out.trans (hb2.mono HB1.out.size))
      clear hb2
      go_wp2_with fail
      go_roundw
      case rel => exact ⟨k + 1, _, by omega, by go_num, rfl, by omega, by omega, by omega, HREL.out w2 HB2.out⟩
      case measure => simp [intOf]; omega
    · have cU := Lib.hid (implUpper_any ((lo : Int) + 1) (turns1 lo n) (some ⟨w.heap.size, 0, none⟩) 1 wr hV hR (turns1_ok h2) (by simp [turns1]))
      have cL := Lib.hid (fun w1 (hb1 : Below wr.heap.size wr w1) => implLower_any (lo : Int) (turns1 lo n) (some ⟨w.heap.size, 0, none⟩) 1 w1 (hV.below hb1 (Nat.le_refl _)) (hR.below hb1 (Nat.le_refl _)) (turns1_ok h2) (by simp [turns1]))
      rw [turns1_ask (r' := (lo : Int)) h1 h2 (by omega) (by omega) (by omega) (by omega)] at cU
      simp only [turns1_ask (r' := (lo : Int)) h1 h2 (show 1 < 2 by omega) (show (lo : Int) ≤ lo by omega) (by omega) rfl] at cL
      have e0 : ((lo : Int) - lo) / 2 * 2 = 0 := by omega
      rw [e0] at cU cL
      have HB := Lib.hid hb
      clear hV hS hR hb e0 HQ2
      go_wp2_with fail
      refine (cU.out).mono ?_
      rintro e w1 ⟨rfl, hb1⟩
      have HB1 := Lib.hid hb1
      clear hb1
      have t0 : ((lo : Int) + 0 + ((0 : Nat) : Int) == (lo : Int)) = true := by simp
      go_wp2_with fail
      refine (cL.out w1 HB1.out).mono ?_
      rintro e w2 ⟨rfl, hb2⟩
      have HB2 := Lib.hid (HB1.out.trans (hb2.mono HB1.out.size))
      clear hb2
      go_wp2_with fail
      go_ret
      exact ⟨by simp, HB.out.trans (HB2.out.mono hszb)⟩

namespace fnTurnsSettle
theorem law (lo n : Int) (A : Option Addr) (len cap : Nat) (zs : List Int) (r : Int) (w : World) (hV : CaseV w) (b0 : -2147483648 ≤ lo ∧ lo ≤ 2147483647) (_ : -9223372036854775808 ≤ n ∧ n ≤ 9223372036854775807)
    (hS : IntsAt w A zs) (hz : zs.length = len) (hl : len ≤ 9223372036854775807) (b4 : -2147483648 ≤ r ∧ r ≤ 2147483647) :
    Calls Tryd.prog 4 #[.int .i32 lo, .int .i64 n, .slice A len cap, .int .i32 r] w fun e w' => e = .returned (.bool true) ∧ Below w.heap.size w w' := by
  rcases Int.lt_or_le lo 0 with h1 | h1
  · exact turns_out lo n r A len cap w (.inl h1)
  rcases Int.lt_or_le n 1 with h2 | h2
  · exact turns_out lo n r A len cap w (.inr (.inl ⟨h1, h2⟩))
  rcases Int.lt_or_le 1114111 n with h3 | h3
  · exact turns_out lo n r A len cap w (.inr (.inr (.inl ⟨h1, h2, h3⟩)))
  rcases Int.lt_or_le 1114112 (lo + 2 * n) with h4 | h4
  · exact turns_out lo n r A len cap w (.inr (.inr (.inr (.inl ⟨h1, h2, h3, b0.2, h4⟩))))
  rcases Int.lt_or_le r lo with h5 | h5
  · exact turns_out lo n r A len cap w (.inr (.inr (.inr (.inr (.inl ⟨h1, h2, h3, h4, h5⟩)))))
  rcases Int.lt_or_le r (lo + 2 * n) with h6 | h6
  · obtain ⟨lo', rfl⟩ := Int.eq_ofNat_of_zero_le h1
    obtain ⟨n', rfl⟩ := Int.eq_ofNat_of_zero_le (show 0 ≤ n by omega)
    exact turns_in lo' n' r zs A len cap w hV hS hl hz (by omega) (by omega) (by omega) (by omega)
  · exact turns_out lo n r A len cap w (.inr (.inr (.inr (.inr (.inr ⟨h1, h2, h3, h4, h5, b4.2, h6⟩)))))
end fnTurnsSettle
end Go.Proofs.YtdabmoekhobgiaaDoor
