/-
  The walk of laws.FnUndone: it returns true for every input. Conditions: the list lies in memory, its bounds fit uint32, it is short enough to be copied; unicode.CaseRanges holds the library's table.
-/
import Derived.Test.YtdabmoekhobgiaaDoorUndoneA
namespace Go.Proofs.YtdabmoekhobgiaaDoor
open Go.RowKit

set_option maxHeartbeats 1000000 in
set_option maxRecDepth 1000000 in
theorem undone_out (L : List Rw) (A : Option Addr) (cap : Nat) (r : Int) (w : World) (hT : RowsAt w A L) (hu : U32Ok L) (hb : L.length * 20 ≤ 140737488351232) (hv : validB L = false ∨ (validB L = true ∧ anyTurnsB L = true)) :
    Calls Tryd.prog 12 #[.slice A L.length cap, .int .i32 r] w fun e w' => e = .returned (.bool true) ∧ Below w.heap.size w w' := by
  have cR := Lib.hid (ranges_any L A cap w hT (by omega))
  have cV := Lib.hid (fun A1 cap1 (w1 : World) (h1 : RowsAt w1 A1 L) => valid_any L A1 cap1 w1 h1 hu (by omega))
  have cT := Lib.hid (fun A1 cap1 (w1 : World) (h1 : RowsAt w1 A1 L) => anyTurns_any L A1 cap1 w1 h1 (by omega))
  clear hT hu
  rcases hv with hv | ⟨hv, ht⟩
  · rw [hv] at cV
    clear hv cT
    go_enter Tryd.func12, Tryd.ntmps12
    go_wp2_with fail
    refine (cR.out).mono ?_
    rintro e w1 ⟨A1, cap1, rfl, h1, hb1⟩
    have H1 := Lib.hid h1
    have HB1 := Lib.hid hb1
    clear h1 hb1
    go_wp2_with fail
    refine (cV.out _ _ _ H1.out).mono ?_
    rintro e w2 ⟨rfl, hb2⟩
    have HB2 := Lib.hid (HB1.out.trans (hb2.mono HB1.out.size))
    clear hb2
    go_wp2_with fail
    go_ret
    exact ⟨rfl, HB2.out⟩
  · rw [hv] at cV
    rw [ht] at cT
    clear hv ht
    go_enter Tryd.func12, Tryd.ntmps12
    go_wp2_with fail
    refine (cR.out).mono ?_
    rintro e w1 ⟨A1, cap1, rfl, h1, hb1⟩
    have H1 := Lib.hid h1
    have HB1 := Lib.hid hb1
    clear h1 hb1
    go_wp2_with fail
    refine (cV.out _ _ _ H1.out).mono ?_
    rintro e w2 ⟨rfl, hb2⟩
    have H2 := Lib.hid (H1.out.below hb2 (Nat.le_refl _))
    have HB2 := Lib.hid (HB1.out.trans (hb2.mono HB1.out.size))
    clear hb2
    go_wp2_with fail
    refine (cT.out _ _ _ H2.out).mono ?_
    rintro e w3 ⟨rfl, hb3⟩
    have HB3 := Lib.hid (HB2.out.trans (hb3.mono HB2.out.size))
    clear hb3
    go_wp2_with fail
    go_ret
    exact ⟨rfl, HB3.out⟩

set_option maxHeartbeats 4000000 in
set_option maxRecDepth 1000000 in
theorem undone_in (L : List Rw) (A : Option Addr) (cap : Nat) (r : Int) (w : World) (hV : CaseV w) (hT : RowsAt w A L) (hu : U32Ok L) (hr : r ≤ 2147483647) (hv : validB L = true) (ht : anyTurnsB L = false) :
    Calls Tryd.prog 12 #[.slice A L.length cap, .int .i32 r] w fun e w' => e = .returned (.bool true) ∧ Below w.heap.size w w' := by
  have hlen := valid_length hv
  have cR := Lib.hid (ranges_any L A cap w hT (by omega))
  have cV := Lib.hid (fun A1 cap1 (w1 : World) (h1 : RowsAt w1 A1 L) => valid_any L A1 cap1 w1 h1 hu (by omega))
  have cT := Lib.hid (fun A1 cap1 (w1 : World) (h1 : RowsAt w1 A1 L) => anyTurns_any L A1 cap1 w1 h1 (by omega))
  rw [hv] at cV
  rw [ht] at cT
  have HV := Lib.hid hV
  have HT := Lib.hid hT
  have HU := Lib.hid hu
  have HVA := Lib.hid hv
  have HTU := Lib.hid ht
  clear hV hT hu hv ht
  go_enter Tryd.func12, Tryd.ntmps12
  go_wp2_with fail
  refine (cR.out).mono ?_
  rintro e w1 ⟨A1, cap1, rfl, h1, hb1⟩
  have H1 := Lib.hid h1
  have HB1 := Lib.hid hb1
  clear h1 hb1
  go_wp2_with fail
  refine (cV.out _ _ _ H1.out).mono ?_
  rintro e w2 ⟨rfl, hb2⟩
  have H2 := Lib.hid (H1.out.below hb2 (Nat.le_refl _))
  have HB2 := Lib.hid (HB1.out.trans (hb2.mono HB1.out.size))
  clear hb2 H1 HB1
  go_wp2_with fail
  refine (cT.out _ _ _ H2.out).mono ?_
  rintro e W5 ⟨rfl, hb3⟩
  have H5 := Lib.hid (H2.out.below hb3 (Nat.le_refl _))
  have HB5 := Lib.hid (HB2.out.trans (hb3.mono HB2.out.size))
  have hs5 := HB5.out.size
  have HA5 := Lib.hid (HT.out.below HB5.out (Nat.le_refl _))
  have HV5 := Lib.hid (HV.out.below HB5.out (Nat.le_refl _))
  clear hb3 H2 HB2 cR cV cT HT HV
  go_wp2_with fail
  go_loopw [18] (fun i wr => ∃ c : Nat, c ≤ 3 ∧ i = .int .i64 c ∧ Below W5.heap.size W5 wr) (fun i _ => 3 - (intOf i).toNat)
  case atStart => exact ⟨0, Nat.zero_le _, rfl, Below.refl _ _⟩
  case round =>
    obtain ⟨c, hc, rfl, hbl⟩ := hrel
    have HBL := Lib.hid hbl
    have hsr := hbl.size
    have HREL : Hid (∀ w1, Below wr.heap.size wr w1 → Below W5.heap.size W5 w1) := fun w1 hb1 => hbl.trans (hb1.mono hsr)
    clear hbl
    by_cases hcl : c < 3
    · have cUn := Lib.hid (undoing_any L A1 cap1 c hcl wr (H5.out.below HBL.out (Nat.le_refl _)) HVA.out HTU.out)
      have cAt := Lib.hid (fun (w1 : World) (hb1 : Below wr.heap.size wr w1) => at_any L A1 cap1 r w1 ((H5.out.below HBL.out (Nat.le_refl _)).below hb1 (Nat.le_refl _)) HU.out hr (by omega))
      have cA0 := Lib.hid (fun (z : Int) (w1 : World) (hb1 : Below wr.heap.size wr w1) => ask_any (c : Int) z (by omega) (by omega) L A cap w1 ((HV5.out.below HBL.out (Nat.le_refl _)).below hb1 (Nat.le_refl _)) ((HA5.out.below HBL.out (Nat.le_refl _)).below hb1 (Nat.le_refl _)) (valid_rune HVA.out) (by omega))
      have cVr := Lib.hid (fun (w1 : World) (hb1 : Below wr.heap.size wr w1) => (HV5.out.below HBL.out (Nat.le_refl _)).below hb1 (Nat.le_refl _))
      simp only [Int.toNat_natCast] at cA0
      go_wp2_with fail
      refine (cUn.out).mono ?_
      rintro e w1 ⟨M, Am, capm, rfl, hp, hM, hb1⟩
      have HP := Lib.hid hp
      have HM := Lib.hid hM
      have HB1 := Lib.hid hb1
      have hlm : M.length = L.length := by rw [hp.length_eq, List.length_map]
      have HLM := Lib.hid hlm
      clear hp hM hb1 cUn hlm
      cases hvm : validB M
      · clear hvm
        go_wp2_with fail
        go_roundw
        case rel => exact ⟨c + 1, by omega, by go_num, HREL.out _ HB1.out⟩
        case measure => simp [intOf]; omega
      have HVM := Lib.hid hvm
      clear hvm
      have cLi1 := Lib.hid (fun (w2 : World) (hb2 : Below w1.heap.size w1 w2) => list_any M Am capm w2 (HM.out.below hb2 (Nat.le_refl _)) (by rw [HLM.out]; omega))
      have cAtM1 := Lib.hid (fun (w2 : World) (hb2 : Below w1.heap.size w1 w2) => at_any M Am capm r w2 (HM.out.below hb2 (Nat.le_refl _)) (undo_u32 HVA.out HTU.out HP.out) hr (by rw [HLM.out]; omega))
      have cVr1 := Lib.hid (fun (w2 : World) (hb2 : Below w1.heap.size w1 w2) => (cVr.out w1 HB1.out).below hb2 (Nat.le_refl _))
      have cB0 := Lib.hid (fun (z : Int) (w2 : World) (hb2 : Below w1.heap.size w1 w2) (A2 : Option Addr) (cap2 : Nat) (h2 : RowsAt w2 A2 M) => ask_any (c : Int) z (by omega) (by omega) M A2 cap2 w2 (cVr1.out w2 hb2) h2 (valid_rune HVM.out) (by rw [HLM.out]; omega))
      have cA1 := Lib.hid (fun (z : Int) (w2 : World) (hb2 : Below w1.heap.size w1 w2) => cA0.out z w2 (HB1.out.trans (hb2.mono HB1.out.size)))
      have cAt1 := Lib.hid (fun (w2 : World) (hb2 : Below w1.heap.size w1 w2) => cAt.out w2 (HB1.out.trans (hb2.mono HB1.out.size)))
      have HREL1 : Hid (∀ w2, Below w1.heap.size w1 w2 → Below W5.heap.size W5 w2) := fun w2 hb2 => HREL.out w2 (HB1.out.trans (hb2.mono HB1.out.size))
      have HB0 := Lib.hid (Below.refl w1.heap.size w1)
      simp only [Int.toNat_natCast] at cB0
      have cA := Lib.hid (cA1.out (askM M c r))
      have cAr := Lib.hid (cA1.out r)
      have cB := Lib.hid (cB0.out (askM L c r))
      have cBr := Lib.hid (cB0.out r)
      clear cVr cVr1 cB0 cA0 cA1 cAt HREL
      obtain ⟨cLi, cAtM, cAt, HREL⟩ : Hid _ ∧ Hid _ ∧ Hid _ ∧ Hid _ := ⟨cLi1, cAtM1, cAt1, HREL1⟩
      clear cLi1 cAtM1 cAt1 HREL1 HBL HB1
      rcases atM_cases L r with ⟨i, hi, hhas, hat⟩ | ⟨hno, hat⟩
      · simp only [hat] at cAt
        have hthere := undo_there HVA.out HTU.out HP.out HVM.out hi (hasB_iff.1 hhas) (c := c)
        simp only [hthere] at cB
        clear hat hhas hthere
        generalize askM L c r = ansL at *
        go_wp2_with fail
        refine (cAt.out w1 HB0.out).mono ?_
        rintro e w2 ⟨rfl, hb2⟩
        have HB2 := Lib.hid hb2
        clear hb2
        go_wp2_with fail
        refine (cLi.out w2 HB2.out).mono ?_
        rintro e w3 ⟨A3, cap3, rfl, h3, hb3⟩
        have H3 := Lib.hid h3
        have HB3 := Lib.hid (HB2.out.trans (hb3.mono HB2.out.size))
        clear hb3 h3
        go_wp2_with fail
        refine (cAr.out w3 HB3.out).mono ?_
        rintro e w4' ⟨rfl, hb4'⟩
        have H4' := Lib.hid (H3.out.below hb4' (Nat.le_refl _))
        have HB4' := Lib.hid (HB3.out.trans (hb4'.mono HB3.out.size))
        clear hb4'
        go_wp2_with fail
        refine (cB.out w4' HB4'.out A3 cap3 H4'.out).mono ?_
        rintro e w4 ⟨rfl, hb4⟩
        have HB4 := Lib.hid (HB4'.out.trans (hb4.mono HB4'.out.size))
        clear hb4
        rcases atM_cases M r with ⟨j, hj, hjhas, hjat⟩ | ⟨hjno, hjat⟩
        · rw [hjat] at cAtM
          have hback := undo_back HVA.out HTU.out HP.out HVM.out hj (hasB_iff.1 hjhas) (c := c)
          simp only [hback] at cA
          clear hjat hjhas hback
          generalize askM M c r = ansM at *
          go_wp2_with fail
          refine (cAtM.out _ HB4.out).mono ?_
          rintro e w5 ⟨rfl, hb5⟩
          have HB5' := Lib.hid (HB4.out.trans (hb5.mono HB4.out.size))
          clear hb5
          go_wp2_with fail
          refine (cLi.out w5 HB5'.out).mono ?_
          rintro e w6 ⟨A6, cap6, rfl, h6, hb6⟩
          have H6 := Lib.hid h6
          have HB6 := Lib.hid (HB5'.out.trans (hb6.mono HB5'.out.size))
          clear hb6 h6
          go_wp2_with fail
          refine (cBr.out w6 HB6.out A6 cap6 H6.out).mono ?_
          rintro e w7 ⟨rfl, hb7⟩
          have HB7 := Lib.hid (HB6.out.trans (hb7.mono HB6.out.size))
          clear hb7
          go_wp2_with fail
          refine (cA.out w7 HB7.out).mono ?_
          rintro e w8 ⟨rfl, hb8⟩
          have HB8 := Lib.hid (HB7.out.trans (hb8.mono HB7.out.size))
          clear hb8
          go_wp2_with fail
          go_roundw
          case rel => exact ⟨c + 1, by omega, by go_num, HREL.out _ HB8.out⟩
          case measure => simp [intOf]; omega
        · rw [hjat] at cAtM
          clear hjat hjno
          go_wp2_with fail
          refine (cAtM.out _ HB4.out).mono ?_
          rintro e w5 ⟨rfl, hb5⟩
          have HB5' := Lib.hid (HB4.out.trans (hb5.mono HB4.out.size))
          clear hb5
          go_wp2_with fail
          go_roundw
          case rel => exact ⟨c + 1, by omega, by go_num, HREL.out _ HB5'.out⟩
          case measure => simp [intOf]; omega
      · simp only [hat] at cAt
        clear hat hno
        generalize askM L c r = ansL at *
        go_wp2_with fail
        refine (cAt.out w1 HB0.out).mono ?_
        rintro e w2 ⟨rfl, hb2⟩
        have HB2 := Lib.hid hb2
        clear hb2
        rcases atM_cases M r with ⟨j, hj, hjhas, hjat⟩ | ⟨hjno, hjat⟩
        · rw [hjat] at cAtM
          have hback := undo_back HVA.out HTU.out HP.out HVM.out hj (hasB_iff.1 hjhas) (c := c)
          simp only [hback] at cA
          clear hjat hjhas hback
          generalize askM M c r = ansM at *
          go_wp2_with fail
          refine (cAtM.out _ HB2.out).mono ?_
          rintro e w5 ⟨rfl, hb5⟩
          have HB5' := Lib.hid (HB2.out.trans (hb5.mono HB2.out.size))
          clear hb5
          go_wp2_with fail
          refine (cLi.out w5 HB5'.out).mono ?_
          rintro e w6 ⟨A6, cap6, rfl, h6, hb6⟩
          have H6 := Lib.hid h6
          have HB6 := Lib.hid (HB5'.out.trans (hb6.mono HB5'.out.size))
          clear hb6 h6
          go_wp2_with fail
          refine (cBr.out w6 HB6.out A6 cap6 H6.out).mono ?_
          rintro e w7 ⟨rfl, hb7⟩
          have HB7 := Lib.hid (HB6.out.trans (hb7.mono HB6.out.size))
          clear hb7
          go_wp2_with fail
          refine (cA.out w7 HB7.out).mono ?_
          rintro e w8 ⟨rfl, hb8⟩
          have HB8 := Lib.hid (HB7.out.trans (hb8.mono HB7.out.size))
          clear hb8
          go_wp2_with fail
          go_roundw
          case rel => exact ⟨c + 1, by omega, by go_num, HREL.out _ HB8.out⟩
          case measure => simp [intOf]; omega
        · rw [hjat] at cAtM
          clear hjat hjno
          go_wp2_with fail
          refine (cAtM.out _ HB2.out).mono ?_
          rintro e w5 ⟨rfl, hb5⟩
          have HB5' := Lib.hid (HB2.out.trans (hb5.mono HB2.out.size))
          clear hb5
          go_wp2_with fail
          go_roundw
          case rel => exact ⟨c + 1, by omega, by go_num, HREL.out _ HB5'.out⟩
          case measure => simp [intOf]; omega
    · obtain rfl : c = 3 := by omega
      have hb7 : Below wr.heap.size wr (wr.alloc (.cells #[.int .u32 0, .int .u32 0, .int .i32 1, .int .i32 1, .int .i32 1] 26)) := (Below.refl _ _).alloc (Nat.le_refl _) _
      have cF := Lib.hid (implLower_any 0 one1 (some ⟨wr.heap.size, 0, none⟩) 1 _ ((HV5.out.below HBL.out (Nat.le_refl _)).below hb7 (Nat.le_refl _)) (rows_new wr one1 26 #[.int .u32 0, .int .u32 0, .int .i32 1, .int .i32 1, .int .i32 1] rfl) one1_ok (by simp [one1]))
      rw [one1_ask] at cF
      have HB7 := Lib.hid (HBL.out.trans (hb7.mono hsr))
      clear hb7
      rw [show ((3 : Nat) : Int) = 3 from rfl]
      go_wp2_with fail
      refine (cF.out).mono ?_
      rintro e w8 ⟨rfl, hb8⟩
      have HB8 := Lib.hid (HB5.out.trans ((HB7.out.trans (hb8.mono HB7.out.size)).mono hs5))
      clear hb8
      go_wp2_with fail
      go_ret
      exact ⟨rfl, HB8.out⟩

namespace fnUndone
theorem law (A : Option Addr) (len cap : Nat) (L : List Rw) (r : Int) (w : World) (hV : CaseV w) (hT : RowsAt w A L) (hlen : L.length = len) (hu : U32Ok L) (hb : L.length * 20 ≤ 140737488351232) (hr : -2147483648 ≤ r ∧ r ≤ 2147483647) :
    Calls Tryd.prog 12 #[.slice A len cap, .int .i32 r] w fun e w' => e = .returned (.bool true) ∧ Below w.heap.size w w' := by
  subst hlen
  cases hv : validB L with
  | false => exact undone_out L A cap r w hT hu hb (.inl hv)
  | true =>
    cases ht : anyTurnsB L with
    | true => exact undone_out L A cap r w hT hu hb (.inr ⟨hv, ht⟩)
    | false => exact undone_in L A cap r w hV hT hu hr.2 hv ht
end fnUndone
end Go.Proofs.YtdabmoekhobgiaaDoor
