/-
  The walk of laws.FnBlocksTurn: it returns true for every input. Conditions: the slice of steps lies in memory; unicode.CaseRanges holds the library's table.
-/
import Derived.Test.YtdabmoekhobgiaaDoorBlocksA
import Derived.Test.YtdabmoekhobgiaaDoorBlocksOut
namespace Go.Proofs.YtdabmoekhobgiaaDoor
open Go.RowKit

set_option maxHeartbeats 1000000 in
set_option maxRecDepth 1000000 in
theorem blocks_in (lo n m p : Nat) (zs : List Int) (A : Option Addr) (len cap : Nat) (w : World) (hV : CaseV w) (hS : IntsAt w A zs) (hzl : len ≤ 9223372036854775807) (hzs : zs.length = len)
    (h1 : 1 ≤ n) (h2 : 1 ≤ m) (h3 : n + m ≤ 65536) (h4 : lo + (n + m) ≤ 1114112) (hp : p < n + m) :
    Calls Tryd.prog 3 #[.int .i32 lo, .int .i64 n, .int .i64 m, .slice A len cap, .int .i32 ((lo : Int) + p)] w fun e w' => e = .returned (.bool true) ∧ Below w.heap.size w w' := by
  have HZS := Lib.hid hzs
  clear hzs
  have cD := Lib.hid (fun w => divisor_any n m (by omega) (by omega) w)
  have hg : 1 ≤ Nat.gcd n m := Nat.gcd_pos_of_pos_left _ (by omega)
  have hper : (n + m) / Nat.gcd n m ≤ n + m := Nat.div_le_self _ _
  obtain ⟨per, hpe⟩ : ∃ per, (n + m) / Nat.gcd n m = per := ⟨_, rfl⟩
  generalize hgg : Nat.gcd n m = g at *
  have HPE := Lib.hid hpe
  have hpz : ((n : Int) + m) / g = per := by rw [← hpe]; simp
  have HGG := Lib.hid hgg
  rw [hpe] at hper
  clear hpe hgg
  go_enter Tryd.func3, Tryd.ntmps3
  go_wp2_with (go_at_call 15; go_must (refine (cD.out _).mono ?_; rintro e w' ⟨rfl, q, rfl⟩))
  obtain ⟨cs, hcs⟩ : ∃ cs : Array Value, cs = #[Value.int IntKind.u32 ↑lo, Value.int IntKind.u32 (↑lo + ↑n - 1), Value.int IntKind.i32 ↑m,
          Value.int IntKind.i32 ↑m, Value.int IntKind.i32 ↑m, Value.int IntKind.u32 (↑lo + ↑n),
          Value.int IntKind.u32 (↑lo + (↑n + ↑m) - 1), Value.int IntKind.i32 (-↑n), Value.int IntKind.i32 (-↑n),
          Value.int IntKind.i32 (-↑n)] := ⟨_, rfl⟩
  rw [← hcs]
  have hb0 : Below w.heap.size w ((w.alloc (Obj.cells cs 26)).drewN q) := below_drewN ((Below.refl _ _).alloc (Nat.le_refl _) _) q
  have hV0 := hV.below hb0 (Nat.le_refl _)
  have hS0 := hS.below hb0 (Nat.le_refl _)
  have hR0 : RowsAt ((w.alloc (Obj.cells cs 26)).drewN q) (some ⟨w.heap.size, 0, none⟩) (blocks lo n m) := by
    refine (rows_new w (blocks lo n m) 26 cs ?_).drewN q
    have e1 : ((lo + n - 1 : Nat) : Int) = lo + n - 1 := by omega
    have e2 : ((lo + (n + m) - 1 : Nat) : Int) = lo + (n + m) - 1 := by omega
    rw [hcs]
    simp [cellsOf, rowCells, blocks, e1, e2]
  generalize (w.alloc (Obj.cells cs 26)).drewN q = w0 at *
  clear hV hS cD hcs
  rw [hpz]
  have HB0 := Lib.hid hb0
  have HV0 := Lib.hid hV0
  have HS0 := Lib.hid hS0
  have HR0 := Lib.hid hR0
  clear hb0 hV0 hS0 hR0 hpz
  go_loopw [15, 17] (fun at_ kk wr => ∃ k : Nat, k ≤ per ∧ kk = .int .i64 ((k : Int) + 1) ∧ at_ = .int .i32 ((lo : Int) + ((p + k * m) % (n + m) : Nat)) ∧ CaseV wr ∧ IntsAt wr A zs ∧ RowsAt wr (some ⟨w.heap.size, 0, none⟩) (blocks lo n m) ∧ Below w.heap.size w wr)
    (fun _ kk _ => per + 1 - (intOf kk).toNat)
  case atStart => exact ⟨0, Nat.zero_le _, rfl, by rw [Nat.zero_mul, Nat.add_zero, Nat.mod_eq_of_lt hp], HV0.out, HS0.out, HR0.out, HB0.out⟩
  case round =>
    obtain ⟨k, hk, rfl, rfl, hV, hS, hR, hb⟩ := hrel
    by_cases hlt : k < per
    · have cA := Lib.hid (fun z h0 h3 => ask_any z ((lo : Int) + ((p + k * m) % (n + m) : Nat)) h0 h3 (blocks lo n m) (some ⟨w.heap.size, 0, none⟩) 2 wr hV hR (blocks_ok h4) (by simp [blocks]))
      simp only [blocks_ask h1 h2 h4] at cA
      obtain ⟨x', hx1, hx2, hx3, hm0, hm1, hx4, hx5⟩ := blocks_nums (p := p) h1 h3 hp hper hlt HGG.out HPE.out
      rw [hx2] at cA
      have hx : (p + k * m) % (n + m) < n + m := Nat.mod_lt _ (by omega)
      generalize (p + k * m) % (n + m) = x at *
      have HX2 := Lib.hid hx2
      clear hx2
      have hszb := hb.size
      have HB := Lib.hid hb
      have HV := Lib.hid hV
      have HS := Lib.hid hS
      have HR := Lib.hid hR
      clear hb hV hS hR HB0 HV0 HS0 HR0
      have hrel : ∀ w1, Below wr.heap.size wr w1 → CaseV w1 ∧ IntsAt w1 A zs ∧ RowsAt w1 (some ⟨w.heap.size, 0, none⟩) (blocks lo n m) ∧ Below w.heap.size w w1 := fun w1 hb1 =>
        ⟨HV.out.below hb1 (Nat.le_refl _), HS.out.below hb1 (Nat.le_refl _), HR.out.below hb1 (Nat.le_refl _), HB.out.trans (hb1.mono hszb)⟩
      have HREL := Lib.hid hrel
      clear hrel
      have t2 : (((lo : Int) + x' == (lo : Int) + p)) = (((k : Int) + 1 == per)) := by
        by_cases hlast : k + 1 = per
        · rw [hx4 hlast, ← hlast]; simp
        · have := hx5 hlast
          have e1 : ((lo : Int) + x' == (lo : Int) + p) = false := by simp; omega
          have e2 : ((k : Int) + 1 == (per : Int)) = false := by simp; omega
          rw [e1, e2]
      have t1 : ((lo : Int) + x' - lo != ((lo : Int) + p - lo + ((k : Int) + 1) * m) % ((n : Int) + m)) = false := by
        rw [show (lo : Int) + p - lo = p by omega, hx3, show (lo : Int) + x' - lo = x' by omega]; simp
      clear hx4 hx5 hx3
      generalize hbb : ((k : Int) + 1 == (per : Int)) = bb at *
      rcases Nat.eq_zero_or_pos len with hz | hz
      · have hz' : ¬ ((0 : Int) < (len : Int)) := by omega
        clear hz
        cases bb
        all_goals
          go_wp2_with (go_at_call 17; go_must (refine (cA.out _ (by omega) (by omega)).mono ?_; rintro e w1 ⟨rfl, hb1⟩; have HB1 := Lib.hid hb1; clear hb1))
          go_roundw
          case rel => exact ⟨k + 1, by omega, by go_num, by rw [HX2.out], HREL.out w1 HB1.out⟩
          case measure => simp [intOf]; omega
      · obtain ⟨b, off, rfl, hbl, hc⟩ := HS.out.at_ (k := (k + 1) % len) (by rw [HZS.out]; exact Nat.mod_lt _ hz)
        generalize zs.getD ((k + 1) % len) 0 = z at *
        have hi0 : 0 ≤ ((k : Int) + 1) % (len : Int) := Int.emod_nonneg _ (by omega)
        have hi1 : ((k : Int) + 1) % (len : Int) < (len : Int) := Int.emod_lt_of_pos _ (by omega)
        cases bb
        all_goals
          go_wp2_with (first
            | (go_at_call 16; go_must (refine (pick_any z 3 (by omega) (by omega) _).mono ?_; rintro e w' ⟨rfl, rfl⟩))
            | (go_at_call 17; go_must (refine (cA.out _ (by omega) (by omega)).mono ?_; rintro e w1 ⟨rfl, hb1⟩; have HB1 := Lib.hid hb1; clear hb1)))
          go_roundw
          case rel => exact ⟨k + 1, by omega, by go_num, by rw [HX2.out], HREL.out w1 HB1.out⟩
          case measure => simp [intOf]; omega
    · go_wp2
      go_ret
      exact ⟨rfl, hb⟩

namespace fnBlocksTurn
theorem law (lo n m : Int) (A : Option Addr) (len cap : Nat) (zs : List Int) (r : Int) (w : World) (hV : CaseV w) (b0 : -2147483648 ≤ lo ∧ lo ≤ 2147483647) (_ : -9223372036854775808 ≤ n ∧ n ≤ 9223372036854775807) (_ : -9223372036854775808 ≤ m ∧ m ≤ 9223372036854775807)
    (hS : IntsAt w A zs) (hz : zs.length = len) (hl : len ≤ 9223372036854775807) (b4 : -2147483648 ≤ r ∧ r ≤ 2147483647) :
    Calls Tryd.prog 3 #[.int .i32 lo, .int .i64 n, .int .i64 m, .slice A len cap, .int .i32 r] w fun e w' => e = .returned (.bool true) ∧ Below w.heap.size w w' := by
  rcases Int.lt_or_le lo 0 with h1 | h1
  · exact blocks_out lo n m r A len cap w (.inl h1)
  rcases Int.lt_or_le n 1 with h2 | h2
  · exact blocks_out lo n m r A len cap w (.inr (.inl ⟨h1, h2⟩))
  rcases Int.lt_or_le m 1 with h3 | h3
  · exact blocks_out lo n m r A len cap w (.inr (.inr (.inl ⟨h1, h2, h3⟩)))
  rcases Int.lt_or_le 65536 n with h4 | h4
  · exact blocks_out lo n m r A len cap w (.inr (.inr (.inr (.inl ⟨h1, h2, h3, h4⟩))))
  rcases Int.lt_or_le 65536 m with h5 | h5
  · exact blocks_out lo n m r A len cap w (.inr (.inr (.inr (.inr (.inl ⟨h1, h2, h3, h4, h5⟩)))))
  rcases Int.lt_or_le 65536 (n + m) with h6 | h6
  · exact blocks_out lo n m r A len cap w (.inr (.inr (.inr (.inr (.inr (.inl ⟨h1, h2, h3, h4, h5, h6⟩))))))
  rcases Int.lt_or_le 1114112 (lo + (n + m)) with h7 | h7
  · exact blocks_out lo n m r A len cap w (.inr (.inr (.inr (.inr (.inr (.inr (.inl ⟨h1, h2, h3, h4, h5, h6, b0.2, h7⟩)))))))
  rcases Int.lt_or_le r lo with h8 | h8
  · exact blocks_out lo n m r A len cap w (.inr (.inr (.inr (.inr (.inr (.inr (.inr (.inl ⟨h1, h2, h3, h4, h5, h6, h7, h8⟩))))))))
  rcases Int.lt_or_le r (lo + (n + m)) with h9 | h9
  · obtain ⟨lo', rfl⟩ := Int.eq_ofNat_of_zero_le h1
    obtain ⟨n', rfl⟩ := Int.eq_ofNat_of_zero_le (show 0 ≤ n by omega)
    obtain ⟨m', rfl⟩ := Int.eq_ofNat_of_zero_le (show 0 ≤ m by omega)
    obtain ⟨p, hp⟩ := Int.eq_ofNat_of_zero_le (show 0 ≤ r - lo' by omega)
    obtain rfl : r = (lo' : Int) + p := by omega
    exact blocks_in lo' n' m' p zs A len cap w hV hS hl hz (by omega) (by omega) (by omega) (by omega) (by omega)
  · exact blocks_out lo n m r A len cap w (.inr (.inr (.inr (.inr (.inr (.inr (.inr (.inr ⟨h1, h2, h3, h4, h5, h6, h7, h8, b4.2, h9⟩))))))))
end fnBlocksTurn
end Go.Proofs.YtdabmoekhobgiaaDoor
