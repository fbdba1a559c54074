/-
  The walk of laws.FnAlphabet for numbers of a block: it returns true. Conditions: the slice of steps lies in memory; unicode.CaseRanges holds the library's table.
-/
import Derived.Test.YtdabmoekhobgiaaDoorAlphaA
namespace Go.Proofs.YtdabmoekhobgiaaDoor
open Go.RowKit

set_option maxHeartbeats 8000000 in
set_option maxRecDepth 1000000 in
theorem alpha_A1 (a b n : Nat) (r : Int) (zs : List Int) (A : Option Addr) (len cap : Nat) (w : World) (hV : CaseV w) (hS : IntsAt w A zs) (hzl : len ≤ 9223372036854775807) (hzs : zs.length = len)
    (hr0 : -2147483648 ≤ r) (hr1 : r ≤ 2147483647) (h1 : 1 ≤ n) (h2 : a + n ≤ 1114112) (h3 : b + n ≤ 1114112) (hd : b + n ≤ a) (hr : (a : Int) ≤ r ∧ r < (a : Int) + n) :
    Calls Tryd.prog 13 #[.int .i32 a, .int .i32 b, .int .i64 n, .slice A len cap, .int .i32 r] w fun e w' => e = .returned (.bool true) ∧ Below w.heap.size w w' := by
  have HZS := Lib.hid hzs
  have HV := Lib.hid hV
  have HS := Lib.hid hS
  have HD : Hid (b + n ≤ a ∨ a + n ≤ b) := by unfold Hid; omega
  have ed : wrap32 ((b : Int) - a) = b - a := wrap32_in (by omega) (by omega)
  have ed' : wrap32 (-((b : Int) - a)) = -((b : Int) - a) := wrap32_in (by omega) (by omega)
  clear hzs hV hS
  have b1 : decide ((a : Int) < 0) = false := by simp
  have b2 : decide ((b : Int) < 0) = false := by simp
  have b3 : decide ((n : Int) < 1) = false := by simp; omega
  have b4 : decide ((1114111 : Int) < (n : Int)) = false := by simp; omega
  have b5 : decide ((1114112 : Int) < (a : Int) + (n : Int)) = false := by simp; omega
  have b6 : decide ((1114112 : Int) < (b : Int) + (n : Int)) = false := by simp; omega
  have b7 : decide ((a : Int) < (b : Int) + (n : Int)) = false := by simp; omega
  have b8 : decide ((a : Int) ≤ r) = true := by simp; omega
  have b9 : decide (r < (a : Int) + (n : Int)) = true := by simp; omega
  go_enter Tryd.func13, Tryd.ntmps13
  go_wp2_with fail
  obtain ⟨cs, hcs⟩ : ∃ cs : Array Value, cs = #[Value.int IntKind.u32 ↑a, Value.int IntKind.u32 (↑a + ↑n - 1), Value.int IntKind.i32 0, Value.int IntKind.i32 (↑b - ↑a), Value.int IntKind.i32 0, Value.int IntKind.u32 ↑b, Value.int IntKind.u32 (↑b + ↑n - 1), Value.int IntKind.i32 (-(↑b - ↑a)), Value.int IntKind.i32 0, Value.int IntKind.i32 (-(↑b - ↑a))] := ⟨_, rfl⟩
  rw [← hcs]
  have hb0 : Below w.heap.size w (w.alloc (Obj.cells cs 42)) := (Below.refl _ _).alloc (Nat.le_refl _) _
  have hR0 : RowsAt (w.alloc (Obj.cells cs 42)) (some ⟨w.heap.size, 0, none⟩) (alph a b n) := by
    refine rows_new w (alph a b n) 42 cs ?_
    have e1 : ((a + n - 1 : Nat) : Int) = a + n - 1 := by omega
    have e2 : ((b + n - 1 : Nat) : Int) = b + n - 1 := by omega
    rw [hcs]
    simp [cellsOf, rowCells, alph, e1, e2]
  generalize w.alloc (Obj.cells cs 42) = w0 at *
  clear hcs
  refine (sorted_any (alph a b n) _ _ w0 hR0 (fun x hx => by
    simp only [alph, List.mem_cons, List.not_mem_nil, or_false] at hx
    rcases hx with rfl | rfl <;> dsimp only <;> omega) (by simp [alph])).mono ?_
  rintro e w1 ⟨L, A1, cap1, rfl, hp, hby, hR1, hb1⟩
  have HP := Lib.hid hp
  have HBY := Lib.hid hby
  have HR1 := Lib.hid hR1
  have HB1 := Lib.hid (hb0.trans (hb1.mono hb0.size))
  have HLN := Lib.hid (alph_len hp)
  clear hp hby hR1 hb0 hb1 hR0
  go_wp2_with fail
  refine (list_any L A1 cap1 w1 HR1.out (by rw [HLN.out]; omega)).mono ?_
  rintro e w2 ⟨A2, cap2, rfl, hR2, hb2⟩
  have HB0 := Lib.hid (HB1.out.trans (hb2.mono HB1.out.size))
  have HR0 := Lib.hid hR2
  have HV0 := Lib.hid (HV.out.below HB0.out (Nat.le_refl _))
  have HS0 := Lib.hid (HS.out.below HB0.out (Nat.le_refl _))
  have hU : Hid (askM L 0 b = a) := by
    unfold Hid; rw [alph_ask HP.out HBY.out h1 h2 h3 HD.out (C := (a : Int)) (by omega) (by omega) (.inr (by omega)) (by omega)]; simp
  have hLw : Hid (askM L 1 a = b) := by
    unfold Hid; rw [alph_ask HP.out HBY.out h1 h2 h3 HD.out (C := (a : Int)) (by omega) (by omega) (.inl rfl) (by omega)]; simp; omega
  have hTi : Hid (askM L 2 b = a) := by
    unfold Hid; rw [alph_ask HP.out HBY.out h1 h2 h3 HD.out (C := (a : Int)) (by omega) (by omega) (.inr (by omega)) (by omega)]; simp
  clear hb2 hR2 HB1 HR1 HV HS
  go_wp2_with fail
  have hC0 : (a : Int) ≤ r := by omega
  have hC1 : r < (a : Int) + n := by omega
  have HST : Hid (r = r ∨ r = r + ((b : Int) - a)) := by unfold Hid; omega
  clear hr
  go_loopw [14, 131] (fun at_ kk wr => ∃ (k : Nat) (q : Int), k ≤ len ∧ kk = .int .i64 k ∧ at_ = .int .i32 q ∧ (q = r ∨ q = r + ((b : Int) - a)) ∧ CaseV wr ∧ IntsAt wr A zs ∧ RowsAt wr A2 L ∧ Below w.heap.size w wr)
    (fun _ kk _ => len - (intOf kk).toNat)
  case atStart => exact ⟨0, r, Nat.zero_le _, rfl, rfl, HST.out, HV0.out, HS0.out, HR0.out, HB0.out⟩
  case round =>
    obtain ⟨k, q, hk, rfl, rfl, hq, hV, hS, hR, hb⟩ := hrel
    have HQ := Lib.hid hq
    have hszb := hb.size
    clear hq HB0 HV0 HS0 HR0
    by_cases hlt : k < len
    · obtain ⟨bb, off, rfl, hbl, hc⟩ := hS.at_ (k := k) (by rw [HZS.out]; exact hlt)
      generalize zs.getD k 0 = z at *
      have hz0 : 0 ≤ z % 3 := by omega
      have hz1 : z % 3 < 3 := by omega
      have cS := Lib.hid (standard_any (z % 3) q (by omega) (by omega) wr hV)
      have cA := Lib.hid (fun w1 (hb1 : Below wr.heap.size wr w1) => ask_any (z % 3) q (by omega) (by omega) L A2 cap2 w1 (hV.below hb1 (Nat.le_refl _)) (hR.below hb1 (Nat.le_refl _)) (alph_rune HP.out h2 h3) (by rw [HLN.out]; omega))
      simp only [alph_ask HP.out HBY.out h1 h2 h3 HD.out hC0 hC1 HQ.out (show (z % 3).toNat < 3 by omega)] at cA
      have HREL : Hid (∀ w1, Below wr.heap.size wr w1 → CaseV w1 ∧ IntsAt w1 (some ⟨bb, off, none⟩) zs ∧ RowsAt w1 A2 L ∧ Below w.heap.size w w1) := fun w1 hb1 =>
        ⟨hV.below hb1 (Nat.le_refl _), hS.below hb1 (Nat.le_refl _), hR.below hb1 (Nat.le_refl _), hb.trans (hb1.mono hszb)⟩
      have HB0 := Lib.hid (Below.refl wr.heap.size wr)
      generalize std (z % 3).toNat q = ss at *
      clear hV hS hR hb
      by_cases hz : z % 3 = 1
      · rw [hz] at cA cS
        rw [if_pos (by rfl)] at cA
        go_wp2_with (go_at_call 16; go_must (refine (pick_any z 3 (by omega) (by omega) _).mono ?_; rintro e w' ⟨rfl, rfl⟩))
        try rw [hz]
        refine (cS.out).mono ?_
        rintro e w1 ⟨rfl, qq, rfl⟩
        have HB1 := Lib.hid (below_drewN HB0.out qq)
        go_wp2_with fail
        refine (cA.out _ HB1.out).mono ?_
        rintro e w2 ⟨rfl, hb2⟩
        have HB2 := Lib.hid (HB1.out.trans (hb2.mono HB1.out.size))
        clear hb2
        go_wp2_with fail
        go_roundw
        case rel => exact ⟨k + 1, _, by omega, by go_num, rfl, .inr rfl, HREL.out w2 HB2.out⟩
        case measure => simp [intOf]; omega
      · rw [if_neg (by omega)] at cA
        have tz : (z % 3 == 1) = false := by simpa using hz
        clear hz
        go_wp2_with (go_at_call 16; go_must (refine (pick_any z 3 (by omega) (by omega) _).mono ?_; rintro e w' ⟨rfl, rfl⟩))
        refine (cS.out).mono ?_
        rintro e w1 ⟨rfl, qq, rfl⟩
        have HB1 := Lib.hid (below_drewN HB0.out qq)
        go_wp2_with fail
        refine (cA.out _ HB1.out).mono ?_
        rintro e w2 ⟨rfl, hb2⟩
        have HB2 := Lib.hid (HB1.out.trans (hb2.mono HB1.out.size))
        clear hb2
        go_wp2_with fail
        go_roundw
        case rel => exact ⟨k + 1, _, by omega, by go_num, rfl, .inl rfl, HREL.out w2 HB2.out⟩
        case measure => simp [intOf]; omega
    · have cU := Lib.hid (implUpper_any (b : Int) L A2 cap2 wr hV hR (alph_rune HP.out h2 h3) (by rw [HLN.out]; omega))
      have cL := Lib.hid (fun w1 (hb1 : Below wr.heap.size wr w1) => implLower_any (a : Int) L A2 cap2 w1 (hV.below hb1 (Nat.le_refl _)) (hR.below hb1 (Nat.le_refl _)) (alph_rune HP.out h2 h3) (by rw [HLN.out]; omega))
      have cT := Lib.hid (fun w1 (hb1 : Below wr.heap.size wr w1) => implTitle_any (b : Int) L A2 cap2 w1 (hV.below hb1 (Nat.le_refl _)) (hR.below hb1 (Nat.le_refl _)) (alph_rune HP.out h2 h3) (by rw [HLN.out]; omega))
      rw [hU.out] at cU
      simp only [hLw.out] at cL
      simp only [hTi.out] at cT
      have HB := Lib.hid hb
      clear hV hS hR hb
      go_wp2_with fail
      refine (cU.out).mono ?_
      rintro e w1 ⟨rfl, hb1⟩
      have HB1 := Lib.hid hb1
      clear hb1
      go_wp2_with fail
      refine (cL.out w1 HB1.out).mono ?_
      rintro e w2 ⟨rfl, hb2⟩
      have HB2 := Lib.hid (HB1.out.trans (hb2.mono HB1.out.size))
      clear hb2
      go_wp2_with fail
      refine (cT.out w2 HB2.out).mono ?_
      rintro e w3 ⟨rfl, hb3⟩
      have HB3 := Lib.hid (HB2.out.trans (hb3.mono HB2.out.size))
      clear hb3
      go_wp2_with fail
      go_ret
      exact ⟨rfl, HB.out.trans (HB3.out.mono hszb)⟩

set_option maxHeartbeats 8000000 in
set_option maxRecDepth 1000000 in
theorem alpha_B1 (a b n : Nat) (r : Int) (zs : List Int) (A : Option Addr) (len cap : Nat) (w : World) (hV : CaseV w) (hS : IntsAt w A zs) (hzl : len ≤ 9223372036854775807) (hzs : zs.length = len)
    (hr0 : -2147483648 ≤ r) (hr1 : r ≤ 2147483647) (h1 : 1 ≤ n) (h2 : a + n ≤ 1114112) (h3 : b + n ≤ 1114112) (hd : b + n ≤ a) (hr : (b : Int) ≤ r ∧ r < (b : Int) + n) :
    Calls Tryd.prog 13 #[.int .i32 a, .int .i32 b, .int .i64 n, .slice A len cap, .int .i32 r] w fun e w' => e = .returned (.bool true) ∧ Below w.heap.size w w' := by
  have HZS := Lib.hid hzs
  have HV := Lib.hid hV
  have HS := Lib.hid hS
  have HD : Hid (b + n ≤ a ∨ a + n ≤ b) := by unfold Hid; omega
  have ed : wrap32 ((b : Int) - a) = b - a := wrap32_in (by omega) (by omega)
  have ed' : wrap32 (-((b : Int) - a)) = -((b : Int) - a) := wrap32_in (by omega) (by omega)
  clear hzs hV hS
  have b1 : decide ((a : Int) < 0) = false := by simp
  have b2 : decide ((b : Int) < 0) = false := by simp
  have b3 : decide ((n : Int) < 1) = false := by simp; omega
  have b4 : decide ((1114111 : Int) < (n : Int)) = false := by simp; omega
  have b5 : decide ((1114112 : Int) < (a : Int) + (n : Int)) = false := by simp; omega
  have b6 : decide ((1114112 : Int) < (b : Int) + (n : Int)) = false := by simp; omega
  have b7 : decide ((a : Int) < (b : Int) + (n : Int)) = false := by simp; omega
  have b8 : decide ((a : Int) ≤ r) = false := by simp; omega
  have b10 : decide ((b : Int) ≤ r) = true := by simp; omega
  have b11 : decide (r < (b : Int) + (n : Int)) = true := by simp; omega
  go_enter Tryd.func13, Tryd.ntmps13
  go_wp2_with fail
  obtain ⟨cs, hcs⟩ : ∃ cs : Array Value, cs = #[Value.int IntKind.u32 ↑a, Value.int IntKind.u32 (↑a + ↑n - 1), Value.int IntKind.i32 0, Value.int IntKind.i32 (↑b - ↑a), Value.int IntKind.i32 0, Value.int IntKind.u32 ↑b, Value.int IntKind.u32 (↑b + ↑n - 1), Value.int IntKind.i32 (-(↑b - ↑a)), Value.int IntKind.i32 0, Value.int IntKind.i32 (-(↑b - ↑a))] := ⟨_, rfl⟩
  rw [← hcs]
  have hb0 : Below w.heap.size w (w.alloc (Obj.cells cs 42)) := (Below.refl _ _).alloc (Nat.le_refl _) _
  have hR0 : RowsAt (w.alloc (Obj.cells cs 42)) (some ⟨w.heap.size, 0, none⟩) (alph a b n) := by
    refine rows_new w (alph a b n) 42 cs ?_
    have e1 : ((a + n - 1 : Nat) : Int) = a + n - 1 := by omega
    have e2 : ((b + n - 1 : Nat) : Int) = b + n - 1 := by omega
    rw [hcs]
    simp [cellsOf, rowCells, alph, e1, e2]
  generalize w.alloc (Obj.cells cs 42) = w0 at *
  clear hcs
  refine (sorted_any (alph a b n) _ _ w0 hR0 (fun x hx => by
    simp only [alph, List.mem_cons, List.not_mem_nil, or_false] at hx
    rcases hx with rfl | rfl <;> dsimp only <;> omega) (by simp [alph])).mono ?_
  rintro e w1 ⟨L, A1, cap1, rfl, hp, hby, hR1, hb1⟩
  have HP := Lib.hid hp
  have HBY := Lib.hid hby
  have HR1 := Lib.hid hR1
  have HB1 := Lib.hid (hb0.trans (hb1.mono hb0.size))
  have HLN := Lib.hid (alph_len hp)
  clear hp hby hR1 hb0 hb1 hR0
  go_wp2_with fail
  refine (list_any L A1 cap1 w1 HR1.out (by rw [HLN.out]; omega)).mono ?_
  rintro e w2 ⟨A2, cap2, rfl, hR2, hb2⟩
  have HB0 := Lib.hid (HB1.out.trans (hb2.mono HB1.out.size))
  have HR0 := Lib.hid hR2
  have HV0 := Lib.hid (HV.out.below HB0.out (Nat.le_refl _))
  have HS0 := Lib.hid (HS.out.below HB0.out (Nat.le_refl _))
  have hU : Hid (askM L 0 b = a) := by
    unfold Hid; rw [alph_ask HP.out HBY.out h1 h2 h3 HD.out (C := (a : Int)) (by omega) (by omega) (.inr (by omega)) (by omega)]; simp
  have hLw : Hid (askM L 1 a = b) := by
    unfold Hid; rw [alph_ask HP.out HBY.out h1 h2 h3 HD.out (C := (a : Int)) (by omega) (by omega) (.inl rfl) (by omega)]; simp; omega
  have hTi : Hid (askM L 2 b = a) := by
    unfold Hid; rw [alph_ask HP.out HBY.out h1 h2 h3 HD.out (C := (a : Int)) (by omega) (by omega) (.inr (by omega)) (by omega)]; simp
  clear hb2 hR2 HB1 HR1 HV HS
  go_wp2_with fail
  obtain ⟨C, hC⟩ : ∃ C : Int, C = r - ((b : Int) - a) := ⟨_, rfl⟩
  rw [← hC]
  have hC0 : (a : Int) ≤ C := by omega
  have hC1 : C < (a : Int) + n := by omega
  have HST : Hid (r = C ∨ r = C + ((b : Int) - a)) := by unfold Hid; omega
  clear hC hr
  go_loopw [14, 131] (fun at_ kk wr => ∃ (k : Nat) (q : Int), k ≤ len ∧ kk = .int .i64 k ∧ at_ = .int .i32 q ∧ (q = C ∨ q = C + ((b : Int) - a)) ∧ CaseV wr ∧ IntsAt wr A zs ∧ RowsAt wr A2 L ∧ Below w.heap.size w wr)
    (fun _ kk _ => len - (intOf kk).toNat)
  case atStart => exact ⟨0, r, Nat.zero_le _, rfl, rfl, HST.out, HV0.out, HS0.out, HR0.out, HB0.out⟩
  case round =>
    obtain ⟨k, q, hk, rfl, rfl, hq, hV, hS, hR, hb⟩ := hrel
    have HQ := Lib.hid hq
    have hszb := hb.size
    clear hq HB0 HV0 HS0 HR0
    by_cases hlt : k < len
    · obtain ⟨bb, off, rfl, hbl, hc⟩ := hS.at_ (k := k) (by rw [HZS.out]; exact hlt)
      generalize zs.getD k 0 = z at *
      have hz0 : 0 ≤ z % 3 := by omega
      have hz1 : z % 3 < 3 := by omega
      have cS := Lib.hid (standard_any (z % 3) q (by omega) (by omega) wr hV)
      have cA := Lib.hid (fun w1 (hb1 : Below wr.heap.size wr w1) => ask_any (z % 3) q (by omega) (by omega) L A2 cap2 w1 (hV.below hb1 (Nat.le_refl _)) (hR.below hb1 (Nat.le_refl _)) (alph_rune HP.out h2 h3) (by rw [HLN.out]; omega))
      simp only [alph_ask HP.out HBY.out h1 h2 h3 HD.out hC0 hC1 HQ.out (show (z % 3).toNat < 3 by omega)] at cA
      have HREL : Hid (∀ w1, Below wr.heap.size wr w1 → CaseV w1 ∧ IntsAt w1 (some ⟨bb, off, none⟩) zs ∧ RowsAt w1 A2 L ∧ Below w.heap.size w w1) := fun w1 hb1 =>
        ⟨hV.below hb1 (Nat.le_refl _), hS.below hb1 (Nat.le_refl _), hR.below hb1 (Nat.le_refl _), hb.trans (hb1.mono hszb)⟩
      have HB0 := Lib.hid (Below.refl wr.heap.size wr)
      generalize std (z % 3).toNat q = ss at *
      clear hV hS hR hb
      by_cases hz : z % 3 = 1
      · rw [hz] at cA cS
        rw [if_pos (by rfl)] at cA
        go_wp2_with (go_at_call 16; go_must (refine (pick_any z 3 (by omega) (by omega) _).mono ?_; rintro e w' ⟨rfl, rfl⟩))
        try rw [hz]
        refine (cS.out).mono ?_
        rintro e w1 ⟨rfl, qq, rfl⟩
        have HB1 := Lib.hid (below_drewN HB0.out qq)
        go_wp2_with fail
        refine (cA.out _ HB1.out).mono ?_
        rintro e w2 ⟨rfl, hb2⟩
        have HB2 := Lib.hid (HB1.out.trans (hb2.mono HB1.out.size))
        clear hb2
        go_wp2_with fail
        go_roundw
        case rel => exact ⟨k + 1, _, by omega, by go_num, rfl, .inr rfl, HREL.out w2 HB2.out⟩
        case measure => simp [intOf]; omega
      · rw [if_neg (by omega)] at cA
        have tz : (z % 3 == 1) = false := by simpa using hz
        clear hz
        go_wp2_with (go_at_call 16; go_must (refine (pick_any z 3 (by omega) (by omega) _).mono ?_; rintro e w' ⟨rfl, rfl⟩))
        refine (cS.out).mono ?_
        rintro e w1 ⟨rfl, qq, rfl⟩
        have HB1 := Lib.hid (below_drewN HB0.out qq)
        go_wp2_with fail
        refine (cA.out _ HB1.out).mono ?_
        rintro e w2 ⟨rfl, hb2⟩
        have HB2 := Lib.hid (HB1.out.trans (hb2.mono HB1.out.size))
        clear hb2
        go_wp2_with fail
        go_roundw
        case rel => exact ⟨k + 1, _, by omega, by go_num, rfl, .inl rfl, HREL.out w2 HB2.out⟩
        case measure => simp [intOf]; omega
    · have cU := Lib.hid (implUpper_any (b : Int) L A2 cap2 wr hV hR (alph_rune HP.out h2 h3) (by rw [HLN.out]; omega))
      have cL := Lib.hid (fun w1 (hb1 : Below wr.heap.size wr w1) => implLower_any (a : Int) L A2 cap2 w1 (hV.below hb1 (Nat.le_refl _)) (hR.below hb1 (Nat.le_refl _)) (alph_rune HP.out h2 h3) (by rw [HLN.out]; omega))
      have cT := Lib.hid (fun w1 (hb1 : Below wr.heap.size wr w1) => implTitle_any (b : Int) L A2 cap2 w1 (hV.below hb1 (Nat.le_refl _)) (hR.below hb1 (Nat.le_refl _)) (alph_rune HP.out h2 h3) (by rw [HLN.out]; omega))
      rw [hU.out] at cU
      simp only [hLw.out] at cL
      simp only [hTi.out] at cT
      have HB := Lib.hid hb
      clear hV hS hR hb
      go_wp2_with fail
      refine (cU.out).mono ?_
      rintro e w1 ⟨rfl, hb1⟩
      have HB1 := Lib.hid hb1
      clear hb1
      go_wp2_with fail
      refine (cL.out w1 HB1.out).mono ?_
      rintro e w2 ⟨rfl, hb2⟩
      have HB2 := Lib.hid (HB1.out.trans (hb2.mono HB1.out.size))
      clear hb2
      go_wp2_with fail
      refine (cT.out w2 HB2.out).mono ?_
      rintro e w3 ⟨rfl, hb3⟩
      have HB3 := Lib.hid (HB2.out.trans (hb3.mono HB2.out.size))
      clear hb3
      go_wp2_with fail
      go_ret
      exact ⟨rfl, HB.out.trans (HB3.out.mono hszb)⟩

set_option maxHeartbeats 8000000 in
set_option maxRecDepth 1000000 in
theorem alpha_A2 (a b n : Nat) (r : Int) (zs : List Int) (A : Option Addr) (len cap : Nat) (w : World) (hV : CaseV w) (hS : IntsAt w A zs) (hzl : len ≤ 9223372036854775807) (hzs : zs.length = len)
    (hr0 : -2147483648 ≤ r) (hr1 : r ≤ 2147483647) (h1 : 1 ≤ n) (h2 : a + n ≤ 1114112) (h3 : b + n ≤ 1114112) (hd : a + n ≤ b) (hr : (a : Int) ≤ r ∧ r < (a : Int) + n) :
    Calls Tryd.prog 13 #[.int .i32 a, .int .i32 b, .int .i64 n, .slice A len cap, .int .i32 r] w fun e w' => e = .returned (.bool true) ∧ Below w.heap.size w w' := by
  have HZS := Lib.hid hzs
  have HV := Lib.hid hV
  have HS := Lib.hid hS
  have HD : Hid (b + n ≤ a ∨ a + n ≤ b) := by unfold Hid; omega
  have ed : wrap32 ((b : Int) - a) = b - a := wrap32_in (by omega) (by omega)
  have ed' : wrap32 (-((b : Int) - a)) = -((b : Int) - a) := wrap32_in (by omega) (by omega)
  clear hzs hV hS
  have b1 : decide ((a : Int) < 0) = false := by simp
  have b2 : decide ((b : Int) < 0) = false := by simp
  have b3 : decide ((n : Int) < 1) = false := by simp; omega
  have b4 : decide ((1114111 : Int) < (n : Int)) = false := by simp; omega
  have b5 : decide ((1114112 : Int) < (a : Int) + (n : Int)) = false := by simp; omega
  have b6 : decide ((1114112 : Int) < (b : Int) + (n : Int)) = false := by simp; omega
  have b7 : decide ((a : Int) < (b : Int) + (n : Int)) = true := by simp; omega
  have b7b : decide ((b : Int) < (a : Int) + (n : Int)) = false := by simp; omega
  have b8 : decide ((a : Int) ≤ r) = true := by simp; omega
  have b9 : decide (r < (a : Int) + (n : Int)) = true := by simp; omega
  go_enter Tryd.func13, Tryd.ntmps13
  go_wp2_with fail
  obtain ⟨cs, hcs⟩ : ∃ cs : Array Value, cs = #[Value.int IntKind.u32 ↑a, Value.int IntKind.u32 (↑a + ↑n - 1), Value.int IntKind.i32 0, Value.int IntKind.i32 (↑b - ↑a), Value.int IntKind.i32 0, Value.int IntKind.u32 ↑b, Value.int IntKind.u32 (↑b + ↑n - 1), Value.int IntKind.i32 (-(↑b - ↑a)), Value.int IntKind.i32 0, Value.int IntKind.i32 (-(↑b - ↑a))] := ⟨_, rfl⟩
  rw [← hcs]
  have hb0 : Below w.heap.size w (w.alloc (Obj.cells cs 42)) := (Below.refl _ _).alloc (Nat.le_refl _) _
  have hR0 : RowsAt (w.alloc (Obj.cells cs 42)) (some ⟨w.heap.size, 0, none⟩) (alph a b n) := by
    refine rows_new w (alph a b n) 42 cs ?_
    have e1 : ((a + n - 1 : Nat) : Int) = a + n - 1 := by omega
    have e2 : ((b + n - 1 : Nat) : Int) = b + n - 1 := by omega
    rw [hcs]
    simp [cellsOf, rowCells, alph, e1, e2]
  generalize w.alloc (Obj.cells cs 42) = w0 at *
  clear hcs
  refine (sorted_any (alph a b n) _ _ w0 hR0 (fun x hx => by
    simp only [alph, List.mem_cons, List.not_mem_nil, or_false] at hx
    rcases hx with rfl | rfl <;> dsimp only <;> omega) (by simp [alph])).mono ?_
  rintro e w1 ⟨L, A1, cap1, rfl, hp, hby, hR1, hb1⟩
  have HP := Lib.hid hp
  have HBY := Lib.hid hby
  have HR1 := Lib.hid hR1
  have HB1 := Lib.hid (hb0.trans (hb1.mono hb0.size))
  have HLN := Lib.hid (alph_len hp)
  clear hp hby hR1 hb0 hb1 hR0
  go_wp2_with fail
  refine (list_any L A1 cap1 w1 HR1.out (by rw [HLN.out]; omega)).mono ?_
  rintro e w2 ⟨A2, cap2, rfl, hR2, hb2⟩
  have HB0 := Lib.hid (HB1.out.trans (hb2.mono HB1.out.size))
  have HR0 := Lib.hid hR2
  have HV0 := Lib.hid (HV.out.below HB0.out (Nat.le_refl _))
  have HS0 := Lib.hid (HS.out.below HB0.out (Nat.le_refl _))
  have hU : Hid (askM L 0 b = a) := by
    unfold Hid; rw [alph_ask HP.out HBY.out h1 h2 h3 HD.out (C := (a : Int)) (by omega) (by omega) (.inr (by omega)) (by omega)]; simp
  have hLw : Hid (askM L 1 a = b) := by
    unfold Hid; rw [alph_ask HP.out HBY.out h1 h2 h3 HD.out (C := (a : Int)) (by omega) (by omega) (.inl rfl) (by omega)]; simp; omega
  have hTi : Hid (askM L 2 b = a) := by
    unfold Hid; rw [alph_ask HP.out HBY.out h1 h2 h3 HD.out (C := (a : Int)) (by omega) (by omega) (.inr (by omega)) (by omega)]; simp
  clear hb2 hR2 HB1 HR1 HV HS
  go_wp2_with fail
  have hC0 : (a : Int) ≤ r := by omega
  have hC1 : r < (a : Int) + n := by omega
  have HST : Hid (r = r ∨ r = r + ((b : Int) - a)) := by unfold Hid; omega
  clear hr
  go_loopw [14, 131] (fun at_ kk wr => ∃ (k : Nat) (q : Int), k ≤ len ∧ kk = .int .i64 k ∧ at_ = .int .i32 q ∧ (q = r ∨ q = r + ((b : Int) - a)) ∧ CaseV wr ∧ IntsAt wr A zs ∧ RowsAt wr A2 L ∧ Below w.heap.size w wr)
    (fun _ kk _ => len - (intOf kk).toNat)
  case atStart => exact ⟨0, r, Nat.zero_le _, rfl, rfl, HST.out, HV0.out, HS0.out, HR0.out, HB0.out⟩
  case round =>
    obtain ⟨k, q, hk, rfl, rfl, hq, hV, hS, hR, hb⟩ := hrel
    have HQ := Lib.hid hq
    have hszb := hb.size
    clear hq HB0 HV0 HS0 HR0
    by_cases hlt : k < len
    · obtain ⟨bb, off, rfl, hbl, hc⟩ := hS.at_ (k := k) (by rw [HZS.out]; exact hlt)
      generalize zs.getD k 0 = z at *
      have hz0 : 0 ≤ z % 3 := by omega
      have hz1 : z % 3 < 3 := by omega
      have cS := Lib.hid (standard_any (z % 3) q (by omega) (by omega) wr hV)
      have cA := Lib.hid (fun w1 (hb1 : Below wr.heap.size wr w1) => ask_any (z % 3) q (by omega) (by omega) L A2 cap2 w1 (hV.below hb1 (Nat.le_refl _)) (hR.below hb1 (Nat.le_refl _)) (alph_rune HP.out h2 h3) (by rw [HLN.out]; omega))
      simp only [alph_ask HP.out HBY.out h1 h2 h3 HD.out hC0 hC1 HQ.out (show (z % 3).toNat < 3 by omega)] at cA
      have HREL : Hid (∀ w1, Below wr.heap.size wr w1 → CaseV w1 ∧ IntsAt w1 (some ⟨bb, off, none⟩) zs ∧ RowsAt w1 A2 L ∧ Below w.heap.size w w1) := fun w1 hb1 =>
        ⟨hV.below hb1 (Nat.le_refl _), hS.below hb1 (Nat.le_refl _), hR.below hb1 (Nat.le_refl _), hb.trans (hb1.mono hszb)⟩
      have HB0 := Lib.hid (Below.refl wr.heap.size wr)
      generalize std (z % 3).toNat q = ss at *
      clear hV hS hR hb
      by_cases hz : z % 3 = 1
      · rw [hz] at cA cS
        rw [if_pos (by rfl)] at cA
        go_wp2_with (go_at_call 16; go_must (refine (pick_any z 3 (by omega) (by omega) _).mono ?_; rintro e w' ⟨rfl, rfl⟩))
        try rw [hz]
        refine (cS.out).mono ?_
        rintro e w1 ⟨rfl, qq, rfl⟩
        have HB1 := Lib.hid (below_drewN HB0.out qq)
        go_wp2_with fail
        refine (cA.out _ HB1.out).mono ?_
        rintro e w2 ⟨rfl, hb2⟩
        have HB2 := Lib.hid (HB1.out.trans (hb2.mono HB1.out.size))
        clear hb2
        go_wp2_with fail
        go_roundw
        case rel => exact ⟨k + 1, _, by omega, by go_num, rfl, .inr rfl, HREL.out w2 HB2.out⟩
        case measure => simp [intOf]; omega
      · rw [if_neg (by omega)] at cA
        have tz : (z % 3 == 1) = false := by simpa using hz
        clear hz
        go_wp2_with (go_at_call 16; go_must (refine (pick_any z 3 (by omega) (by omega) _).mono ?_; rintro e w' ⟨rfl, rfl⟩))
        refine (cS.out).mono ?_
        rintro e w1 ⟨rfl, qq, rfl⟩
        have HB1 := Lib.hid (below_drewN HB0.out qq)
        go_wp2_with fail
        refine (cA.out _ HB1.out).mono ?_
        rintro e w2 ⟨rfl, hb2⟩
        have HB2 := Lib.hid (HB1.out.trans (hb2.mono HB1.out.size))
        clear hb2
        go_wp2_with fail
        go_roundw
        case rel => exact ⟨k + 1, _, by omega, by go_num, rfl, .inl rfl, HREL.out w2 HB2.out⟩
        case measure => simp [intOf]; omega
    · have cU := Lib.hid (implUpper_any (b : Int) L A2 cap2 wr hV hR (alph_rune HP.out h2 h3) (by rw [HLN.out]; omega))
      have cL := Lib.hid (fun w1 (hb1 : Below wr.heap.size wr w1) => implLower_any (a : Int) L A2 cap2 w1 (hV.below hb1 (Nat.le_refl _)) (hR.below hb1 (Nat.le_refl _)) (alph_rune HP.out h2 h3) (by rw [HLN.out]; omega))
      have cT := Lib.hid (fun w1 (hb1 : Below wr.heap.size wr w1) => implTitle_any (b : Int) L A2 cap2 w1 (hV.below hb1 (Nat.le_refl _)) (hR.below hb1 (Nat.le_refl _)) (alph_rune HP.out h2 h3) (by rw [HLN.out]; omega))
      rw [hU.out] at cU
      simp only [hLw.out] at cL
      simp only [hTi.out] at cT
      have HB := Lib.hid hb
      clear hV hS hR hb
      go_wp2_with fail
      refine (cU.out).mono ?_
      rintro e w1 ⟨rfl, hb1⟩
      have HB1 := Lib.hid hb1
      clear hb1
      go_wp2_with fail
      refine (cL.out w1 HB1.out).mono ?_
      rintro e w2 ⟨rfl, hb2⟩
      have HB2 := Lib.hid (HB1.out.trans (hb2.mono HB1.out.size))
      clear hb2
      go_wp2_with fail
      refine (cT.out w2 HB2.out).mono ?_
      rintro e w3 ⟨rfl, hb3⟩
      have HB3 := Lib.hid (HB2.out.trans (hb3.mono HB2.out.size))
      clear hb3
      go_wp2_with fail
      go_ret
      exact ⟨rfl, HB.out.trans (HB3.out.mono hszb)⟩

set_option maxHeartbeats 8000000 in
set_option maxRecDepth 1000000 in
theorem alpha_B2 (a b n : Nat) (r : Int) (zs : List Int) (A : Option Addr) (len cap : Nat) (w : World) (hV : CaseV w) (hS : IntsAt w A zs) (hzl : len ≤ 9223372036854775807) (hzs : zs.length = len)
    (hr0 : -2147483648 ≤ r) (hr1 : r ≤ 2147483647) (h1 : 1 ≤ n) (h2 : a + n ≤ 1114112) (h3 : b + n ≤ 1114112) (hd : a + n ≤ b) (hr : (b : Int) ≤ r ∧ r < (b : Int) + n) :
    Calls Tryd.prog 13 #[.int .i32 a, .int .i32 b, .int .i64 n, .slice A len cap, .int .i32 r] w fun e w' => e = .returned (.bool true) ∧ Below w.heap.size w w' := by
  have HZS := Lib.hid hzs
  have HV := Lib.hid hV
  have HS := Lib.hid hS
  have HD : Hid (b + n ≤ a ∨ a + n ≤ b) := by unfold Hid; omega
  have ed : wrap32 ((b : Int) - a) = b - a := wrap32_in (by omega) (by omega)
  have ed' : wrap32 (-((b : Int) - a)) = -((b : Int) - a) := wrap32_in (by omega) (by omega)
  clear hzs hV hS
  have b1 : decide ((a : Int) < 0) = false := by simp
  have b2 : decide ((b : Int) < 0) = false := by simp
  have b3 : decide ((n : Int) < 1) = false := by simp; omega
  have b4 : decide ((1114111 : Int) < (n : Int)) = false := by simp; omega
  have b5 : decide ((1114112 : Int) < (a : Int) + (n : Int)) = false := by simp; omega
  have b6 : decide ((1114112 : Int) < (b : Int) + (n : Int)) = false := by simp; omega
  have b7 : decide ((a : Int) < (b : Int) + (n : Int)) = true := by simp; omega
  have b7b : decide ((b : Int) < (a : Int) + (n : Int)) = false := by simp; omega
  have b8 : decide ((a : Int) ≤ r) = true := by simp; omega
  have b9 : decide (r < (a : Int) + (n : Int)) = false := by simp; omega
  have b10 : decide ((b : Int) ≤ r) = true := by simp; omega
  have b11 : decide (r < (b : Int) + (n : Int)) = true := by simp; omega
  go_enter Tryd.func13, Tryd.ntmps13
  go_wp2_with fail
  obtain ⟨cs, hcs⟩ : ∃ cs : Array Value, cs = #[Value.int IntKind.u32 ↑a, Value.int IntKind.u32 (↑a + ↑n - 1), Value.int IntKind.i32 0, Value.int IntKind.i32 (↑b - ↑a), Value.int IntKind.i32 0, Value.int IntKind.u32 ↑b, Value.int IntKind.u32 (↑b + ↑n - 1), Value.int IntKind.i32 (-(↑b - ↑a)), Value.int IntKind.i32 0, Value.int IntKind.i32 (-(↑b - ↑a))] := ⟨_, rfl⟩
  rw [← hcs]
  have hb0 : Below w.heap.size w (w.alloc (Obj.cells cs 42)) := (Below.refl _ _).alloc (Nat.le_refl _) _
  have hR0 : RowsAt (w.alloc (Obj.cells cs 42)) (some ⟨w.heap.size, 0, none⟩) (alph a b n) := by
    refine rows_new w (alph a b n) 42 cs ?_
    have e1 : ((a + n - 1 : Nat) : Int) = a + n - 1 := by omega
    have e2 : ((b + n - 1 : Nat) : Int) = b + n - 1 := by omega
    rw [hcs]
    simp [cellsOf, rowCells, alph, e1, e2]
  generalize w.alloc (Obj.cells cs 42) = w0 at *
  clear hcs
  refine (sorted_any (alph a b n) _ _ w0 hR0 (fun x hx => by
    simp only [alph, List.mem_cons, List.not_mem_nil, or_false] at hx
    rcases hx with rfl | rfl <;> dsimp only <;> omega) (by simp [alph])).mono ?_
  rintro e w1 ⟨L, A1, cap1, rfl, hp, hby, hR1, hb1⟩
  have HP := Lib.hid hp
  have HBY := Lib.hid hby
  have HR1 := Lib.hid hR1
  have HB1 := Lib.hid (hb0.trans (hb1.mono hb0.size))
  have HLN := Lib.hid (alph_len hp)
  clear hp hby hR1 hb0 hb1 hR0
  go_wp2_with fail
  refine (list_any L A1 cap1 w1 HR1.out (by rw [HLN.out]; omega)).mono ?_
  rintro e w2 ⟨A2, cap2, rfl, hR2, hb2⟩
  have HB0 := Lib.hid (HB1.out.trans (hb2.mono HB1.out.size))
  have HR0 := Lib.hid hR2
  have HV0 := Lib.hid (HV.out.below HB0.out (Nat.le_refl _))
  have HS0 := Lib.hid (HS.out.below HB0.out (Nat.le_refl _))
  have hU : Hid (askM L 0 b = a) := by
    unfold Hid; rw [alph_ask HP.out HBY.out h1 h2 h3 HD.out (C := (a : Int)) (by omega) (by omega) (.inr (by omega)) (by omega)]; simp
  have hLw : Hid (askM L 1 a = b) := by
    unfold Hid; rw [alph_ask HP.out HBY.out h1 h2 h3 HD.out (C := (a : Int)) (by omega) (by omega) (.inl rfl) (by omega)]; simp; omega
  have hTi : Hid (askM L 2 b = a) := by
    unfold Hid; rw [alph_ask HP.out HBY.out h1 h2 h3 HD.out (C := (a : Int)) (by omega) (by omega) (.inr (by omega)) (by omega)]; simp
  clear hb2 hR2 HB1 HR1 HV HS
  go_wp2_with fail
  obtain ⟨C, hC⟩ : ∃ C : Int, C = r - ((b : Int) - a) := ⟨_, rfl⟩
  rw [← hC]
  have hC0 : (a : Int) ≤ C := by omega
  have hC1 : C < (a : Int) + n := by omega
  have HST : Hid (r = C ∨ r = C + ((b : Int) - a)) := by unfold Hid; omega
  clear hC hr
  go_loopw [14, 131] (fun at_ kk wr => ∃ (k : Nat) (q : Int), k ≤ len ∧ kk = .int .i64 k ∧ at_ = .int .i32 q ∧ (q = C ∨ q = C + ((b : Int) - a)) ∧ CaseV wr ∧ IntsAt wr A zs ∧ RowsAt wr A2 L ∧ Below w.heap.size w wr)
    (fun _ kk _ => len - (intOf kk).toNat)
  case atStart => exact ⟨0, r, Nat.zero_le _, rfl, rfl, HST.out, HV0.out, HS0.out, HR0.out, HB0.out⟩
  case round =>
    obtain ⟨k, q, hk, rfl, rfl, hq, hV, hS, hR, hb⟩ := hrel
    have HQ := Lib.hid hq
    have hszb := hb.size
    clear hq HB0 HV0 HS0 HR0
    by_cases hlt : k < len
    · obtain ⟨bb, off, rfl, hbl, hc⟩ := hS.at_ (k := k) (by rw [HZS.out]; exact hlt)
      generalize zs.getD k 0 = z at *
      have hz0 : 0 ≤ z % 3 := by omega
      have hz1 : z % 3 < 3 := by omega
      have cS := Lib.hid (standard_any (z % 3) q (by omega) (by omega) wr hV)
      have cA := Lib.hid (fun w1 (hb1 : Below wr.heap.size wr w1) => ask_any (z % 3) q (by omega) (by omega) L A2 cap2 w1 (hV.below hb1 (Nat.le_refl _)) (hR.below hb1 (Nat.le_refl _)) (alph_rune HP.out h2 h3) (by rw [HLN.out]; omega))
      simp only [alph_ask HP.out HBY.out h1 h2 h3 HD.out hC0 hC1 HQ.out (show (z % 3).toNat < 3 by omega)] at cA
      have HREL : Hid (∀ w1, Below wr.heap.size wr w1 → CaseV w1 ∧ IntsAt w1 (some ⟨bb, off, none⟩) zs ∧ RowsAt w1 A2 L ∧ Below w.heap.size w w1) := fun w1 hb1 =>
        ⟨hV.below hb1 (Nat.le_refl _), hS.below hb1 (Nat.le_refl _), hR.below hb1 (Nat.le_refl _), hb.trans (hb1.mono hszb)⟩
      have HB0 := Lib.hid (Below.refl wr.heap.size wr)
      generalize std (z % 3).toNat q = ss at *
      clear hV hS hR hb
      by_cases hz : z % 3 = 1
      · rw [hz] at cA cS
        rw [if_pos (by rfl)] at cA
        go_wp2_with (go_at_call 16; go_must (refine (pick_any z 3 (by omega) (by omega) _).mono ?_; rintro e w' ⟨rfl, rfl⟩))
        try rw [hz]
        refine (cS.out).mono ?_
        rintro e w1 ⟨rfl, qq, rfl⟩
        have HB1 := Lib.hid (below_drewN HB0.out qq)
        go_wp2_with fail
        refine (cA.out _ HB1.out).mono ?_
        rintro e w2 ⟨rfl, hb2⟩
        have HB2 := Lib.hid (HB1.out.trans (hb2.mono HB1.out.size))
        clear hb2
        go_wp2_with fail
        go_roundw
        case rel => exact ⟨k + 1, _, by omega, by go_num, rfl, .inr rfl, HREL.out w2 HB2.out⟩
        case measure => simp [intOf]; omega
      · rw [if_neg (by omega)] at cA
        have tz : (z % 3 == 1) = false := by simpa using hz
        clear hz
        go_wp2_with (go_at_call 16; go_must (refine (pick_any z 3 (by omega) (by omega) _).mono ?_; rintro e w' ⟨rfl, rfl⟩))
        refine (cS.out).mono ?_
        rintro e w1 ⟨rfl, qq, rfl⟩
        have HB1 := Lib.hid (below_drewN HB0.out qq)
        go_wp2_with fail
        refine (cA.out _ HB1.out).mono ?_
        rintro e w2 ⟨rfl, hb2⟩
        have HB2 := Lib.hid (HB1.out.trans (hb2.mono HB1.out.size))
        clear hb2
        go_wp2_with fail
        go_roundw
        case rel => exact ⟨k + 1, _, by omega, by go_num, rfl, .inl rfl, HREL.out w2 HB2.out⟩
        case measure => simp [intOf]; omega
    · have cU := Lib.hid (implUpper_any (b : Int) L A2 cap2 wr hV hR (alph_rune HP.out h2 h3) (by rw [HLN.out]; omega))
      have cL := Lib.hid (fun w1 (hb1 : Below wr.heap.size wr w1) => implLower_any (a : Int) L A2 cap2 w1 (hV.below hb1 (Nat.le_refl _)) (hR.below hb1 (Nat.le_refl _)) (alph_rune HP.out h2 h3) (by rw [HLN.out]; omega))
      have cT := Lib.hid (fun w1 (hb1 : Below wr.heap.size wr w1) => implTitle_any (b : Int) L A2 cap2 w1 (hV.below hb1 (Nat.le_refl _)) (hR.below hb1 (Nat.le_refl _)) (alph_rune HP.out h2 h3) (by rw [HLN.out]; omega))
      rw [hU.out] at cU
      simp only [hLw.out] at cL
      simp only [hTi.out] at cT
      have HB := Lib.hid hb
      clear hV hS hR hb
      go_wp2_with fail
      refine (cU.out).mono ?_
      rintro e w1 ⟨rfl, hb1⟩
      have HB1 := Lib.hid hb1
      clear hb1
      go_wp2_with fail
      refine (cL.out w1 HB1.out).mono ?_
      rintro e w2 ⟨rfl, hb2⟩
      have HB2 := Lib.hid (HB1.out.trans (hb2.mono HB1.out.size))
      clear hb2
      go_wp2_with fail
      refine (cT.out w2 HB2.out).mono ?_
      rintro e w3 ⟨rfl, hb3⟩
      have HB3 := Lib.hid (HB2.out.trans (hb3.mono HB2.out.size))
      clear hb3
      go_wp2_with fail
      go_ret
      exact ⟨rfl, HB.out.trans (HB3.out.mono hszb)⟩

end Go.Proofs.YtdabmoekhobgiaaDoor
