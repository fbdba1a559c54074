/-
  The walk of laws.FnManyRanges: it returns true for every input. Conditions: unicode.CaseRanges holds the library's table.
-/
import Derived.Test.YtdabmoekhobgiaaDoorManyA
import Derived.Test.YtdabmoekhobgiaaDoorManyOut
namespace Go.Proofs.YtdabmoekhobgiaaDoor
open Go.RowKit

theorem new_list (w : World) (cs : Array Value) (t : TypeId) : ∀ j u, cs.toList[j]? = some u → (w.alloc (.cells cs t)).cell? ((⟨w.heap.size, 0, none⟩ : Addr).add j) = some u := by
  intro j u hu
  rw [add_plain, Nat.zero_add, cell_of_row _ _ _ _ t (0, 0) (heap_alloc_new w _), ← Array.getElem?_toList]
  exact hu

set_option maxHeartbeats 4000000 in
set_option maxRecDepth 1000000 in
theorem many_in (lo gap n i : Nat) (w : World) (hV : CaseV w) (h1 : 2 ≤ gap) (h2 : gap ≤ 1114111) (h3 : n ≤ 65536) (h4 : lo + gap * n ≤ 1114112) (h5 : i < n) :
    Calls Tryd.prog 7 #[.int .i32 lo, .int .i64 gap, .int .i64 n, .int .i64 i] w fun e w' => e = .returned (.bool true) ∧ Below w.heap.size w w' := by
  obtain ⟨i0, hi, hz0, hz1, hz2⟩ := info_parts info26
  have HV := Lib.hid hV
  have hg0 : 0 ≤ (gap : Int) * (n : Int) := by have : ((gap * n : Nat) : Int) = (gap : Int) * (n : Int) := by simp
                                               omega
  have hg1 : (lo : Int) + (gap : Int) * (n : Int) ≤ 1114112 := by have : ((gap * n : Nat) : Int) = (gap : Int) * (n : Int) := by simp
                                                                  omega
  have hi0 : 0 ≤ (gap : Int) * (i : Int) ∧ (lo : Int) + (gap : Int) * (i : Int) ≤ 1114110 := by
    have h := manyX_le (lo := lo) h1 h4 h5
    unfold manyX at h
    have e : ((gap * i : Nat) : Int) = (gap : Int) * (i : Int) := by simp
    omega
  obtain ⟨hi0, hi1⟩ := hi0
  have hX := Lib.hid (fun k (hk : k < n) => manyX_le (lo := lo) h1 h4 hk)
  have H4 := Lib.hid h4
  clear hV h4
  have b1 : decide ((lo : Int) < 0) = false := by simp
  have b2 : decide ((gap : Int) < 2) = false := by simp; omega
  have b3 : decide ((1114111 : Int) < (gap : Int)) = false := by simp; omega
  have b4 : decide ((n : Int) < 1) = false := by simp; omega
  have b5 : decide ((65536 : Int) < (n : Int)) = false := by simp; omega
  have b6 : decide ((1114112 : Int) < (lo : Int) + (gap : Int) * (n : Int)) = false := by simp; omega
  have b7 : decide ((i : Int) < 0) = false := by simp
  have b8 : decide (n ≤ i) = false := by simp; omega
  go_enter Tryd.func7, Tryd.ntmps7
  go_wp2
  go_loopw [9, 52] (fun v j wr => ∃ k : Nat, k ≤ n ∧ j = .int .i64 k ∧ wr.ownsRow w.heap.size 26 5 v k (cellsOf (single (manyX lo gap) (manyD lo gap) k)) ∧ Below w.heap.size w wr) (fun _ j _ => n - (intOf j).toNat)
  case atStart => exact ⟨0, Nat.zero_le _, rfl, World.ownsRow_nil _ _ _ _, Below.refl _ _⟩
  case round =>
    obtain ⟨k, hk, rfl, hown, hbl⟩ := hrel
    by_cases hlt : k < n
    · have hk0 : 0 ≤ (gap : Int) * (k : Int) ∧ (lo : Int) + (gap : Int) * (k : Int) ≤ 1114110 := by
        have h := hX.out k hlt
        unfold manyX at h
        have e : ((gap * k : Nat) : Int) = (gap : Int) * (k : Int) := by simp
        omega
      obtain ⟨hk0, hk1⟩ := hk0
      have hsz := hbl.size
      go_wp2_with (at_builtin; refine wpList_append_own _ rfl _ _ 27 rfl w.heap.size 26 i0 _ 5 20 Tryd.underlying27 hi hz0 hz1 hz2 rfl (by decide) _ _ _ rfl (hown.alloc _) ⟨wr.heap.size, 0, none⟩ 1 1 [.int .u32 ((lo : Int) + gap * k), .int .u32 ((lo : Int) + gap * k), .int .i32 ((k : Int) - ((lo : Int) + gap * k)), .int .i32 ((k : Int) - ((lo : Int) + gap * k)), .int .i32 ((k : Int) - ((lo : Int) + gap * k))] rfl rfl ?c1 ?c2 ?c3 ?c4 ?c5 ?_)
      case c1 => exact new_list wr _ 26
      case c2 => rw [← many_cells]; exact rowCells_one _
      case c3 => unfold maxLen; omega
      case c4 => omega
      case c5 => simp; omega
      intro v' w1 hown' hgrow _
      have hrel : w1.ownsRow w.heap.size 26 5 v' (k + 1) (cellsOf (single (manyX lo gap) (manyD lo gap) (k + 1))) := by
        rw [single_succ, cellsOf_snoc, many_cells]; exact hown'
      have hbl1 : Below w.heap.size w w1 := (hbl.alloc hsz _).grown hgrow (by simp; omega) (fun g hg => (hown.lt g hg).1)
      have HO := Lib.hid hrel
      have HB := Lib.hid hbl1
      clear hown' hgrow hown hbl hrel hbl1
      go_wp2
      go_roundw
      case rel => exact ⟨k + 1, by omega, by go_num, HO.out, HB.out⟩
      case measure => simp [intOf]; omega
    · obtain rfl : k = n := by omega
      obtain ⟨-, Aa, capa, hv, hrows, -⟩ := own_rows hown
      subst hv
      have HM := Lib.hid hrows
      have HBL := Lib.hid hbl
      have hsw := hbl.size
      clear hown hrows hbl
      go_wp2
      obtain ⟨wo, rfl⟩ : ∃ wo : World, wo = wr := ⟨_, rfl⟩
      go_loopw [85] (fun j wr => ∃ c : Nat, c ≤ 3 ∧ j = .int .i64 c ∧ RowsAt wr Aa (single (manyX lo gap) (manyD lo gap) k) ∧ Below w.heap.size w wr) (fun j _ => 3 - (intOf j).toNat)
      case atStart => exact ⟨0, Nat.zero_le _, rfl, HM.out, HBL.out⟩
      case round =>
        obtain ⟨c, hc, rfl, hM, hbl⟩ := hrel
        clear HM HBL
        have HBL := Lib.hid hbl
        have hsr := hbl.size
        have HREL : Hid (∀ w1, Below wr.heap.size wr w1 → RowsAt w1 Aa (single (manyX lo gap) (manyD lo gap) k) ∧ Below w.heap.size w w1) := fun w1 hb1 =>
          ⟨hM.below hb1 (Nat.le_refl _), hbl.trans (hb1.mono hsr)⟩
        by_cases hcl : c < 3
        · have hVr := HV.out.below hbl (Nat.le_refl _)
          have cA := Lib.hid (ask_any (c : Int) ((lo : Int) + gap * i) (by omega) (by omega) (single (manyX lo gap) (manyD lo gap) k) Aa capa wr hVr hM (many_rune h1 H4.out) (by rw [single_length]; omega))
          have cB := Lib.hid (fun (w1 : World) (hb1 : Below wr.heap.size wr w1) => ask_any (c : Int) ((lo : Int) + gap * i + 1) (by omega) (by omega) (single (manyX lo gap) (manyD lo gap) k) Aa capa w1 (hVr.below hb1 (Nat.le_refl _)) (hM.below hb1 (Nat.le_refl _)) (many_rune h1 H4.out) (by rw [single_length]; omega))
          have cS := Lib.hid (fun (w1 : World) (hb1 : Below wr.heap.size wr w1) => standard_any (c : Int) ((lo : Int) + gap * i + 1) (by omega) (by omega) w1 (hVr.below hb1 (Nat.le_refl _)))
          simp only [Int.toNat_natCast, single_length] at cA cB cS
          rw [many_hit h1 H4.out h3 h5] at cA
          rw [many_miss h1] at cB
          generalize std c ((lo : Int) + gap * i + 1) = ans at *
          clear hM hbl hVr
          go_wp2_with fail
          refine (cA.out).mono ?_
          rintro e w1 ⟨rfl, hb1⟩
          have HB1 := Lib.hid hb1
          clear hb1
          go_wp2_with fail
          refine (cB.out w1 HB1.out).mono ?_
          rintro e w2 ⟨rfl, hb2⟩
          have HB2 := Lib.hid (HB1.out.trans (hb2.mono HB1.out.size))
          clear hb2
          go_wp2_with fail
          refine (cS.out w2 HB2.out).mono ?_
          rintro e w3 ⟨rfl, q, rfl⟩
          have HB3 := Lib.hid (below_drewN HB2.out q)
          go_wp2_with fail
          go_roundw
          case rel => exact ⟨c + 1, by omega, by go_num, HREL.out _ HB3.out⟩
          case measure => simp [intOf]; omega
        · obtain rfl : c = 3 := by omega
          have hb7 : Below wr.heap.size wr (wr.alloc (.cells #[.int .u32 0, .int .u32 0, .int .i32 1, .int .i32 1, .int .i32 1] 26)) := (Below.refl _ _).alloc (Nat.le_refl _) _
          have cF := Lib.hid (implUpper_any 0 one1 (some ⟨wr.heap.size, 0, none⟩) 1 _ ((HV.out.below hbl (Nat.le_refl _)).below hb7 (Nat.le_refl _)) (rows_new wr one1 26 #[.int .u32 0, .int .u32 0, .int .i32 1, .int .i32 1, .int .i32 1] rfl) one1_ok (by simp [one1]))
          rw [one1_ask] at cF
          have HB7 := Lib.hid (hbl.trans (hb7.mono hsr))
          clear hb7 hM hbl
          rw [show ((3 : Nat) : Int) = 3 from rfl]
          go_wp2_with fail
          refine (cF.out).mono ?_
          rintro e w8 ⟨rfl, hb8⟩
          have HB8 := Lib.hid (HB7.out.trans (hb8.mono HB7.out.size))
          clear hb8
          go_wp2_with fail
          go_ret
          exact ⟨rfl, HB8.out⟩

namespace fnManyRanges
theorem law (lo gap n i : Int) (w : World) (hV : CaseV w) (b0 : -2147483648 ≤ lo ∧ lo ≤ 2147483647) (_ : -9223372036854775808 ≤ gap ∧ gap ≤ 9223372036854775807) (_ : -9223372036854775808 ≤ n ∧ n ≤ 9223372036854775807) (_ : -9223372036854775808 ≤ i ∧ i ≤ 9223372036854775807) :
    Calls Tryd.prog 7 #[.int .i32 lo, .int .i64 gap, .int .i64 n, .int .i64 i] w fun e w' => e = .returned (.bool true) ∧ Below w.heap.size w w' := by
  rcases Int.lt_or_le lo 0 with h1 | h1
  · exact many_out lo gap n i w (.inl h1)
  rcases Int.lt_or_le gap 2 with h2 | h2
  · exact many_out lo gap n i w (.inr (.inl ⟨h1, h2⟩))
  rcases Int.lt_or_le 1114111 gap with h3 | h3
  · exact many_out lo gap n i w (.inr (.inr (.inl ⟨h1, h2, h3⟩)))
  rcases Int.lt_or_le n 1 with h4 | h4
  · exact many_out lo gap n i w (.inr (.inr (.inr (.inl ⟨h1, h2, h3, h4⟩))))
  rcases Int.lt_or_le 65536 n with h5 | h5
  · exact many_out lo gap n i w (.inr (.inr (.inr (.inr (.inl ⟨h1, h2, h3, h4, h5⟩)))))
  have hm0 : 0 ≤ gap * n := Int.mul_nonneg (by omega) (by omega)
  have hm1 : gap * n ≤ 1114111 * 65536 := Int.mul_le_mul h3 h5 (by omega) (by omega)
  rcases Int.lt_or_le 1114112 (lo + gap * n) with h6 | h6
  · exact many_out lo gap n i w (.inr (.inr (.inr (.inr (.inr (.inl ⟨h1, b0.2, h2, h3, h4, h5, hm0, by omega, h6⟩))))))
  rcases Int.lt_or_le i 0 with h7 | h7
  · exact many_out lo gap n i w (.inr (.inr (.inr (.inr (.inr (.inr (.inl ⟨h1, b0.2, h2, h3, h4, h5, hm0, h6, h7⟩)))))))
  rcases Int.lt_or_le i n with h8 | h8
  · obtain ⟨lo', rfl⟩ := Int.eq_ofNat_of_zero_le h1
    obtain ⟨gap', rfl⟩ := Int.eq_ofNat_of_zero_le (show 0 ≤ gap by omega)
    obtain ⟨n', rfl⟩ := Int.eq_ofNat_of_zero_le (show 0 ≤ n by omega)
    obtain ⟨i', rfl⟩ := Int.eq_ofNat_of_zero_le h7
    have e : ((gap' * n' : Nat) : Int) = (gap' : Int) * (n' : Int) := by simp
    exact many_in lo' gap' n' i' w hV (by omega) (by omega) (by omega) (by omega) (by omega)
  · exact many_out lo gap n i w (.inr (.inr (.inr (.inr (.inr (.inr (.inr ⟨h1, b0.2, h2, h3, h4, h5, hm0, h6, h7, h8⟩)))))))
end fnManyRanges
end Go.Proofs.YtdabmoekhobgiaaDoor
