/-
  The walk of laws.FnMoved: it returns true for every input. Conditions: the list lies in memory, its bounds fit uint32, it is short enough to be copied; unicode.CaseRanges holds the library's table.
-/
import Derived.Test.YtdabmoekhobgiaaDoorMovedA
namespace Go.Proofs.YtdabmoekhobgiaaDoor
open Go.RowKit

set_option maxHeartbeats 1000000 in
set_option maxRecDepth 1000000 in
theorem moved_out (L : List Rw) (A : Option Addr) (cap : Nat) (by' r : Int) (w : World) (hT : RowsAt w A L) (hu : U32Ok L) (hb : L.length * 20 ≤ 140737488351232) (hv : validB L = false ∨ (validB L = true ∧ by' < -1114111) ∨ (validB L = true ∧ -1114111 ≤ by' ∧ 1114111 < by')) :
    Calls Tryd.prog 6 #[.slice A L.length cap, .int .i32 by', .int .i32 r] w fun e w' => e = .returned (.bool true) ∧ Below w.heap.size w w' := by
  have cR := Lib.hid (ranges_any L A cap w hT (by omega))
  have cV := Lib.hid (fun A1 cap1 (w1 : World) (h1 : RowsAt w1 A1 L) => valid_any L A1 cap1 w1 h1 hu (by omega))
  clear hT hu
  rcases hv with hv | ⟨hv, h1⟩ | ⟨hv, h1, h2⟩
  all_goals
    rw [hv] at cV
    clear hv
    go_enter Tryd.func6, Tryd.ntmps6
    go_wp2_with fail
    refine (cR.out).mono ?_
    rintro e w1 ⟨A1, cap1, rfl, h1, hb1⟩
    have H1 := Lib.hid h1
    have HB1 := Lib.hid hb1
    clear h1 hb1
    go_wp2_with fail
    refine (cV.out _ _ _ H1.out).mono ?_
    rintro e w2 ⟨rfl, hb2⟩
    have HB2 := Lib.hid (HB1.out.trans (hb2.mono HB1.out.size))
    clear hb2
    go_wp2_with fail
    go_ret
    exact ⟨rfl, HB2.out⟩

set_option maxHeartbeats 4000000 in
set_option maxRecDepth 1000000 in
theorem moved_in (L : List Rw) (A : Option Addr) (cap : Nat) (by' r : Int) (w : World) (hV : CaseV w) (hT : RowsAt w A L) (hu : U32Ok L) (hr : r ≤ 2147483647) (hv : validB L = true) (hb0 : -1114111 ≤ by') (hb9 : by' ≤ 1114111) :
    Calls Tryd.prog 6 #[.slice A L.length cap, .int .i32 by', .int .i32 r] w fun e w' => e = .returned (.bool true) ∧ Below w.heap.size w w' := by
  have hlen := valid_length hv
  have cR := Lib.hid (ranges_any L A cap w hT (by omega))
  have cV := Lib.hid (fun A1 cap1 (w1 : World) (h1 : RowsAt w1 A1 L) => valid_any L A1 cap1 w1 h1 hu (by omega))
  rw [hv] at cV
  have HV := Lib.hid hV
  have HT := Lib.hid hT
  have HU := Lib.hid hu
  have HVA := Lib.hid hv
  clear hV hT hu hv
  go_enter Tryd.func6, Tryd.ntmps6
  go_wp2_with fail
  refine (cR.out).mono ?_
  rintro e w1 ⟨A1, cap1, rfl, h1, hb1⟩
  have H1 := Lib.hid h1
  have HB1 := Lib.hid hb1
  clear h1 hb1
  go_wp2_with fail
  refine (cV.out _ _ _ H1.out).mono ?_
  rintro e W5 ⟨rfl, hb2⟩
  have H5 := Lib.hid (H1.out.below hb2 (Nat.le_refl _))
  have HB5 := Lib.hid (HB1.out.trans (hb2.mono HB1.out.size))
  have hs5 := HB5.out.size
  have HA5 := Lib.hid (HT.out.below HB5.out (Nat.le_refl _))
  have HV5 := Lib.hid (HV.out.below HB5.out (Nat.le_refl _))
  clear hb2 H1 HB1 HT HV cR cV
  go_wp2_with fail
  refine (cloneR_any L A1 cap1 W5 H5.out (by omega)).mono ?_
  rintro e w6 ⟨vb, rfl, hown, hb6⟩
  have HO := Lib.hid hown
  have HB6 := Lib.hid hb6
  have hvb : ∃ Ab capb, vb = .slice Ab L.length capb := by
    obtain ⟨-, A', cap', hv, -, -⟩ := own_rows hown
    exact ⟨A', cap', hv⟩
  obtain ⟨Ab, capb, rfl⟩ := hvb
  clear hown hb6
  go_wp2_with fail
  go_loopw [28] (fun i wr => ∃ k : Nat, k ≤ L.length ∧ i = .int .i64 k ∧ (∀ j, j < k → 0 ≤ ((rowAt L j).1 : Int) + by') ∧ wr.ownsRow W5.heap.size 42 5 (.slice Ab L.length capb) L.length (cellsOf (updL (mv by') L k)) ∧ Below W5.heap.size W5 wr) (fun i _ => L.length - (intOf i).toNat)
  case atStart => exact ⟨0, Nat.zero_le _, rfl, fun j hj => absurd hj (by omega), by rw [updL_zero]; exact HO.out, HB6.out⟩
  case round =>
    obtain ⟨k, hk, rfl, hpos, hown, hbl⟩ := hrel
    clear HO HB6
    have HP := Lib.hid hpos
    clear hpos
    by_cases hlt : k < L.length
    · obtain ⟨g, rfl, hg0, hg1⟩ := own_form hown (by omega)
      have hat := fun j (hj : j < 5) => (hown.cellAt (k * 5 + j) (by omega)).trans (cellsOf_at _ k j _ (updL_at hlt) hj)
      have p0 : wr.cell? ⟨g, k * 5, none⟩ = some (.int .u32 (rowAt L k).1) := hat 0 (by omega)
      have p1 : wr.cell? ⟨g, k * 5 + 1, none⟩ = some (.int .u32 (rowAt L k).2.1) := hat 1 (by omega)
      have f0 := hown.frozenAt (k * 5)
      have f1 := hown.frozenAt (k * 5 + 1)
      have hrow := okRow_bounds (valid_row HVA.out hlt)
      have hst1 := hown.stored (k * 5) (.int .u32 (((rowAt L k).1 + by').toNat : Nat))
      have hst2 := hst1.1.stored (k * 5 + 1) (.int .u32 (((rowAt L k).2.1 + by').toNat : Nat))
      rw [mv_step hlt] at hst2
      have hb7 : Below W5.heap.size W5 ((wr.setCell ⟨g, k * 5, none⟩ (.int .u32 (((rowAt L k).1 + by').toNat : Nat))).setCell ⟨g, k * 5 + 1, none⟩ (.int .u32 (((rowAt L k).2.1 + by').toNat : Nat))) :=
        (hbl.setCell (p := ⟨g, k * 5, none⟩) hg0 _).setCell (p := ⟨g, k * 5 + 1, none⟩) hg0 _
      have HO7 := Lib.hid hst2.1
      have HB7 := Lib.hid hb7
      have HBL := Lib.hid hbl
      have HSTEP : Hid (0 ≤ ((rowAt L k).1 : Int) + by' → ∀ j, j < k + 1 → 0 ≤ ((rowAt L j).1 : Int) + by') := fun h j hj => by
        rcases Nat.lt_or_ge j k with h' | h'
        · exact HP.out j h'
        · obtain rfl : j = k := by omega
          exact h
      clear hat hst1 hst2 hb7 hown hbl
      generalize (rowAt L k).1 = lo at *
      generalize (rowAt L k).2.1 = hi at *
      by_cases hneg : (lo : Int) + by' < 0
      · go_wp2
        go_ret
        exact ⟨rfl, HB5.out.trans (HBL.out.mono hs5)⟩
      · have hn0 : 0 ≤ (lo : Int) + by' := by omega
        have HS := Lib.hid (HSTEP.out hn0)
        rw [show (((lo : Int) + by').toNat : Int) = (lo + by') % 4294967296 by omega, show (((hi : Int) + by').toNat : Int) = (hi + by') % 4294967296 by omega] at HO7 HB7
        clear HSTEP
        go_wp2
        go_roundw
        case rel => exact ⟨k + 1, by omega, by go_num, HS.out, HO7.out, HB7.out⟩
        case measure => simp [intOf]; omega
    · obtain rfl : k = L.length := by omega
      rw [updL_all] at hown
      obtain ⟨-, A', cap', hv, hrows, -⟩ := own_rows hown
      cases hv
      have HM := Lib.hid hrows
      have HBL := Lib.hid hbl
      have huM : U32Ok (L.map (mv by')) := fun i hi => by
        rw [List.length_map] at hi
        rw [map_rowAt hi]
        have := okRow_bounds (valid_row HVA.out hi)
        have h0 := HP.out i hi
        exact ⟨by show ((rowAt L i).1 + by').toNat < _; omega, by show ((rowAt L i).2.1 + by').toNat < _; omega⟩
      have cV := Lib.hid (valid_any (L.map (mv by')) Ab capb wr HM.out huM (by rw [List.length_map]; omega))
      rw [List.length_map] at cV
      clear hown hrows hbl hk hlt huM
      cases hvM : validB (L.map (mv by'))
      · rw [hvM] at cV
        clear hvM
        go_wp2_with fail
        refine (cV.out).mono ?_
        rintro e w7 ⟨rfl, hb7⟩
        have HB7 := Lib.hid (HB5.out.trans ((HBL.out.trans (hb7.mono HBL.out.size)).mono hs5))
        clear hb7
        go_wp2_with fail
        go_ret
        exact ⟨rfl, HB7.out⟩
      rw [hvM] at cV
      have HVM := Lib.hid hvM
      clear hvM
      go_wp2_with fail
      refine (cV.out).mono ?_
      rintro e w7 ⟨rfl, hb7⟩
      have HM7 := Lib.hid (HM.out.below hb7 (Nat.le_refl _))
      have HB7 := Lib.hid (HBL.out.trans (hb7.mono HBL.out.size))
      clear hb7 HM HBL cV
      go_wp2_with fail
      obtain ⟨wo, rfl⟩ : ∃ wo : World, wo = wr := ⟨_, rfl⟩
      go_loopw [65] (fun i wr => ∃ c : Nat, c ≤ 3 ∧ i = .int .i64 c ∧ RowsAt wr Ab (L.map (mv by')) ∧ Below W5.heap.size W5 wr) (fun i _ => 3 - (intOf i).toNat)
      case atStart => exact ⟨0, Nat.zero_le _, rfl, HM7.out, HB7.out⟩
      case round =>
        obtain ⟨c, hc, rfl, hM, hbl⟩ := hrel
        clear HM7 HB7
        have HM := Lib.hid hM
        have HBL := Lib.hid hbl
        have hsr := hbl.size
        have HREL : Hid (∀ w1, Below wr.heap.size wr w1 → RowsAt w1 Ab (L.map (mv by')) ∧ Below W5.heap.size W5 w1) := fun w1 hb1 =>
          ⟨hM.below hb1 (Nat.le_refl _), hbl.trans (hb1.mono hsr)⟩
        clear hM hbl
        by_cases hcl : c < 3
        · have cAt := Lib.hid (fun (w1 : World) (hb1 : Below wr.heap.size wr w1) => at_any L A1 cap1 r w1 ((H5.out.below HBL.out (Nat.le_refl _)).below hb1 (Nat.le_refl _)) HU.out hr (by omega))
          have cT := Lib.hid (anyTurns_any L A1 cap1 wr (H5.out.below HBL.out (Nat.le_refl _)) (by omega))
          have cLi := Lib.hid (fun (w1 : World) (hb1 : Below wr.heap.size wr w1) => list_any (L.map (mv by')) Ab capb w1 (HM.out.below hb1 (Nat.le_refl _)) (by rw [List.length_map]; omega))
          have cB := Lib.hid (fun (w1 : World) (hb1 : Below wr.heap.size wr w1) (A2 : Option Addr) (cap2 : Nat) (h2 : RowsAt w1 A2 (L.map (mv by'))) => ask_any (c : Int) (r + by') (by omega) (by omega) (L.map (mv by')) A2 cap2 w1 ((HV5.out.below HBL.out (Nat.le_refl _)).below hb1 (Nat.le_refl _)) h2 (valid_rune HVM.out) (by rw [List.length_map]; omega))
          have cA := Lib.hid (fun (w1 : World) (hb1 : Below wr.heap.size wr w1) => ask_any (c : Int) r (by omega) (by omega) L A cap w1 ((HV5.out.below HBL.out (Nat.le_refl _)).below hb1 (Nat.le_refl _)) ((HA5.out.below HBL.out (Nat.le_refl _)).below hb1 (Nat.le_refl _)) (valid_rune HVA.out) (by omega))
          simp only [Int.toNat_natCast, List.length_map] at cB cA cLi
          rcases atM_cases L r with ⟨i, hi, hhas, hat⟩ | ⟨hno, hat⟩
          · simp only [hat] at cAt
            have hask := valid_ask HVA.out hi (hasB_iff.1 hhas) c
            have hrb : 0 ≤ r ∧ r ≤ 1114111 := by
              have h1 := hasB_iff.1 hhas
              have h2 := okRow_bounds (valid_row HVA.out hi)
              unfold hasR at h1
              omega
            rw [mv_ask HVA.out HVM.out HP.out hi (hasB_iff.1 hhas) c] at cB
            obtain ⟨-, ha0, ha1⟩ := hask
            clear hat hhas
            generalize askM L c r = ans at *
            by_cases h2 : c = 2
            · subst h2
              generalize anyTurnsB L = tb at *
              rw [show ((2 : Nat) : Int) = 2 from rfl] at cA cB ⊢
              cases tb
              · go_wp2_with fail
                refine (cT.out).mono ?_
                rintro e w1 ⟨rfl, hb1⟩
                have HB1 := Lib.hid hb1
                clear hb1
                go_wp2_with fail
                refine (cAt.out w1 HB1.out).mono ?_
                rintro e w2 ⟨rfl, hb2⟩
                have HB2 := Lib.hid (HB1.out.trans (hb2.mono HB1.out.size))
                clear hb2
                go_wp2_with fail
                refine (cLi.out w2 HB2.out).mono ?_
                rintro e w3 ⟨A3, cap3, rfl, h3, hb3⟩
                have H3 := Lib.hid h3
                have HB3 := Lib.hid (HB2.out.trans (hb3.mono HB2.out.size))
                clear hb3 h3
                go_wp2_with fail
                refine (cB.out w3 HB3.out A3 cap3 H3.out).mono ?_
                rintro e w4 ⟨rfl, hb4⟩
                have HB4 := Lib.hid (HB3.out.trans (hb4.mono HB3.out.size))
                clear hb4
                go_wp2_with fail
                refine (cA.out w4 HB4.out).mono ?_
                rintro e w5' ⟨rfl, hb5'⟩
                have HB5' := Lib.hid (HB4.out.trans (hb5'.mono HB4.out.size))
                clear hb5'
                go_wp2_with fail
                go_roundw
                case rel => exact ⟨3, by omega, rfl, HREL.out _ HB5'.out⟩
                case measure => simp [intOf]
              · go_wp2_with fail
                refine (cT.out).mono ?_
                rintro e w1 ⟨rfl, hb1⟩
                have HB1 := Lib.hid hb1
                clear hb1
                go_wp2_with fail
                go_roundw
                case rel => exact ⟨3, by omega, rfl, HREL.out _ HB1.out⟩
                case measure => simp [intOf]
            · have t2 : ((c : Int) == 2) = false := by simp; omega
              have hb00 : Below wr.heap.size wr wr := Below.refl _ _
              have HB1 := Lib.hid hb00
              clear hb00 h2 cT
              go_wp2_with fail
              refine (cAt.out wr HB1.out).mono ?_
              rintro e w2 ⟨rfl, hb2⟩
              have HB2 := Lib.hid (HB1.out.trans (hb2.mono HB1.out.size))
              clear hb2
              go_wp2_with fail
              refine (cLi.out w2 HB2.out).mono ?_
              rintro e w3 ⟨A3, cap3, rfl, h3, hb3⟩
              have H3 := Lib.hid h3
              have HB3 := Lib.hid (HB2.out.trans (hb3.mono HB2.out.size))
              clear hb3 h3
              go_wp2_with fail
              refine (cB.out w3 HB3.out A3 cap3 H3.out).mono ?_
              rintro e w4 ⟨rfl, hb4⟩
              have HB4 := Lib.hid (HB3.out.trans (hb4.mono HB3.out.size))
              clear hb4
              go_wp2_with fail
              refine (cA.out w4 HB4.out).mono ?_
              rintro e w5' ⟨rfl, hb5'⟩
              have HB5' := Lib.hid (HB4.out.trans (hb5'.mono HB4.out.size))
              clear hb5'
              go_wp2_with fail
              go_roundw
              case rel => exact ⟨c + 1, by omega, by go_num, HREL.out _ HB5'.out⟩
              case measure => simp [intOf]; omega
          · simp only [hat] at cAt
            clear hat hno cB cA cLi
            by_cases h2 : c = 2
            · subst h2
              generalize anyTurnsB L = tb at *
              cases tb
              · go_wp2_with fail
                refine (cT.out).mono ?_
                rintro e w1 ⟨rfl, hb1⟩
                have HB1 := Lib.hid hb1
                clear hb1
                go_wp2_with fail
                refine (cAt.out w1 HB1.out).mono ?_
                rintro e w2 ⟨rfl, hb2⟩
                have HB2 := Lib.hid (HB1.out.trans (hb2.mono HB1.out.size))
                clear hb2
                go_wp2_with fail
                go_roundw
                case rel => exact ⟨3, by omega, rfl, HREL.out _ HB2.out⟩
                case measure => simp [intOf]
              · go_wp2_with fail
                refine (cT.out).mono ?_
                rintro e w1 ⟨rfl, hb1⟩
                have HB1 := Lib.hid hb1
                clear hb1
                go_wp2_with fail
                go_roundw
                case rel => exact ⟨3, by omega, rfl, HREL.out _ HB1.out⟩
                case measure => simp [intOf]
            · have t2 : ((c : Int) == 2) = false := by simp; omega
              have hb00 : Below wr.heap.size wr wr := Below.refl _ _
              have HB1 := Lib.hid hb00
              clear hb00 h2 cT
              go_wp2_with fail
              refine (cAt.out wr HB1.out).mono ?_
              rintro e w2 ⟨rfl, hb2⟩
              have HB2 := Lib.hid (HB1.out.trans (hb2.mono HB1.out.size))
              clear hb2
              go_wp2_with fail
              go_roundw
              case rel => exact ⟨c + 1, by omega, by go_num, HREL.out _ HB2.out⟩
              case measure => simp [intOf]; omega
        · obtain rfl : c = 3 := by omega
          have hb7 : Below wr.heap.size wr (wr.alloc (.cells #[.int .u32 0, .int .u32 0, .int .i32 1, .int .i32 1, .int .i32 1] 26)) := (Below.refl _ _).alloc (Nat.le_refl _) _
          have cF := Lib.hid (implTitle_any 0 one1 (some ⟨wr.heap.size, 0, none⟩) 1 _ ((HV5.out.below HBL.out (Nat.le_refl _)).below hb7 (Nat.le_refl _)) (rows_new wr one1 26 #[.int .u32 0, .int .u32 0, .int .i32 1, .int .i32 1, .int .i32 1] rfl) one1_ok (by simp [one1]))
          rw [one1_ask] at cF
          have HB7 := Lib.hid (HBL.out.trans (hb7.mono hsr))
          clear hb7
          rw [show ((3 : Nat) : Int) = 3 from rfl]
          go_wp2_with fail
          refine (cF.out).mono ?_
          rintro e w8 ⟨rfl, hb8⟩
          have HB8 := Lib.hid (HB5.out.trans ((HB7.out.trans (hb8.mono HB7.out.size)).mono hs5))
          clear hb8
          go_wp2_with fail
          go_ret
          exact ⟨rfl, HB8.out⟩

namespace fnMoved
theorem law (A : Option Addr) (len cap : Nat) (L : List Rw) (by' r : Int) (w : World) (hV : CaseV w) (hT : RowsAt w A L) (hlen : L.length = len) (hu : U32Ok L) (hb : L.length * 20 ≤ 140737488351232) (_ : -2147483648 ≤ by' ∧ by' ≤ 2147483647) (hr : -2147483648 ≤ r ∧ r ≤ 2147483647) :
    Calls Tryd.prog 6 #[.slice A len cap, .int .i32 by', .int .i32 r] w fun e w' => e = .returned (.bool true) ∧ Below w.heap.size w w' := by
  subst hlen
  cases hv : validB L with
  | false => exact moved_out L A cap by' r w hT hu hb (.inl hv)
  | true =>
    rcases Int.lt_or_le by' (-1114111) with h1 | h1
    · exact moved_out L A cap by' r w hT hu hb (.inr (.inl ⟨hv, h1⟩))
    rcases Int.lt_or_le 1114111 by' with h2 | h2
    · exact moved_out L A cap by' r w hT hu hb (.inr (.inr ⟨hv, h1, h2⟩))
    · exact moved_in L A cap by' r w hV hT hu hr.2 hv h1 h2
end fnMoved
end Go.Proofs.YtdabmoekhobgiaaDoor
