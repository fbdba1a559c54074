/-
  The walk of laws.FnCasesExchanged: it returns true for every input. Conditions: the list lies in memory, its bounds fit uint32, it is short enough to be copied; unicode.CaseRanges holds the library's table.
-/
import Derived.Test.YtdabmoekhobgiaaDoorExchA
import Derived.Test.YtdabmoekhobgiaaDoorOrder
import Derived.RegionTactic
namespace Go.Proofs.YtdabmoekhobgiaaDoor
open Go.RowKit

set_option maxHeartbeats 1000000 in
set_option maxRecDepth 1000000 in
theorem exch_invalid (L : List Rw) (A : Option Addr) (cap : Nat) (s r : Int) (w : World) (hT : RowsAt w A L) (hu : U32Ok L) (hb : L.length * 20 ≤ 140737488351232) (hv : validB L = false ∨ (validB L = true ∧ anyTurnsB L = true)) :
    Calls Tryd.prog 5 #[.slice A L.length cap, .int .i64 s, .int .i32 r] w fun e w' => e = .returned (.bool true) ∧ Below w.heap.size w w' := by
  have cR := Lib.hid (ranges_any L A cap w hT (by omega))
  have cV := Lib.hid (fun A1 cap1 (w1 : World) (h1 : RowsAt w1 A1 L) => valid_any L A1 cap1 w1 h1 hu (by omega))
  have cT := Lib.hid (fun A1 cap1 (w1 : World) (h1 : RowsAt w1 A1 L) => anyTurns_any L A1 cap1 w1 h1 (by omega))
  clear hT hu
  rcases hv with hv | ⟨hv, ht⟩
  · rw [hv] at cV
    clear hv cT
    go_enter Tryd.func5, Tryd.ntmps5
    go_wp2_with fail
    refine (cR.out).mono ?_
    rintro e w1 ⟨A1, cap1, rfl, h1, hb1⟩
    have H1 := Lib.hid h1
    have HB1 := Lib.hid hb1
    clear h1 hb1
    go_wp2_with fail
    refine (cV.out _ _ _ H1.out).mono ?_
    rintro e w2 ⟨rfl, hb2⟩
    have HB2 := Lib.hid (HB1.out.trans (hb2.mono HB1.out.size))
    clear hb2
    go_wp2_with fail
    go_ret
    exact ⟨rfl, HB2.out⟩
  · rw [hv] at cV
    rw [ht] at cT
    clear hv ht
    go_enter Tryd.func5, Tryd.ntmps5
    go_wp2_with fail
    refine (cR.out).mono ?_
    rintro e w1 ⟨A1, cap1, rfl, h1, hb1⟩
    have H1 := Lib.hid h1
    have HB1 := Lib.hid hb1
    clear h1 hb1
    go_wp2_with fail
    refine (cV.out _ _ _ H1.out).mono ?_
    rintro e w2 ⟨rfl, hb2⟩
    have H2 := Lib.hid (H1.out.below hb2 (Nat.le_refl _))
    have HB2 := Lib.hid (HB1.out.trans (hb2.mono HB1.out.size))
    clear hb2
    go_wp2_with fail
    refine (cT.out _ _ _ H2.out).mono ?_
    rintro e w3 ⟨rfl, hb3⟩
    have HB3 := Lib.hid (HB2.out.trans (hb3.mono HB2.out.size))
    clear hb3
    go_wp2_with fail
    go_ret
    exact ⟨rfl, HB3.out⟩

set_option maxHeartbeats 4000000 in
set_option maxRecDepth 1000000 in
theorem exch_valid (L : List Rw) (A : Option Addr) (cap : Nat) (s r : Int) (w : World) (hV : CaseV w) (hT : RowsAt w A L) (hu : U32Ok L) (hr : r ≤ 2147483647) (hv : validB L = true) (ht : anyTurnsB L = false) :
    Calls Tryd.prog 5 #[.slice A L.length cap, .int .i64 s, .int .i32 r] w fun e w' => e = .returned (.bool true) ∧ Below w.heap.size w w' := by
  have hlen := valid_length hv
  have cR := Lib.hid (ranges_any L A cap w hT (by omega))
  have cV := Lib.hid (fun A1 cap1 (w1 : World) (h1 : RowsAt w1 A1 L) => valid_any L A1 cap1 w1 h1 hu (by omega))
  have cT := Lib.hid (fun A1 cap1 (w1 : World) (h1 : RowsAt w1 A1 L) => anyTurns_any L A1 cap1 w1 h1 (by omega))
  rw [hv] at cV
  rw [ht] at cT
  have HV := Lib.hid hV
  have HT := Lib.hid hT
  have HU := Lib.hid hu
  have HVA := Lib.hid hv
  have HTU := Lib.hid ht
  clear hV hT hu hv ht
  go_enter Tryd.func5, Tryd.ntmps5
  go_wp2_with fail
  refine (cR.out).mono ?_
  rintro e w1 ⟨A1, cap1, rfl, h1, hb1⟩
  have H1 := Lib.hid h1
  have HB1 := Lib.hid hb1
  clear h1 hb1
  go_wp2_with fail
  refine (cV.out _ _ _ H1.out).mono ?_
  rintro e w2 ⟨rfl, hb2⟩
  have H2 := Lib.hid (H1.out.below hb2 (Nat.le_refl _))
  have HB2 := Lib.hid (HB1.out.trans (hb2.mono HB1.out.size))
  clear hb2 H1 HB1
  go_wp2_with fail
  refine (cT.out _ _ _ H2.out).mono ?_
  rintro e w3 ⟨rfl, hb3⟩
  have H3 := Lib.hid (H2.out.below hb3 (Nat.le_refl _))
  have HB3 := Lib.hid (HB2.out.trans (hb3.mono HB2.out.size))
  clear hb3 H2 HB2 cR cV cT
  go_wp2_with fail
  refine (order_any s w3).mono ?_
  rintro e w4 ⟨⟨q0, q1, q2, hq0, hq1, hq2, rfl⟩, hb4⟩
  have H4 := Lib.hid (H3.out.below hb4 (Nat.le_refl _))
  have HB4 := Lib.hid (HB3.out.trans (hb4.mono HB3.out.size))
  clear hb4 H3 HB3
  go_wp2_with fail
  have hs4 := HB4.out.size
  have e0 : (w4.alloc (.cells #[.int .i64 q0, .int .i64 q1, .int .i64 q2] 36)).cell? ⟨w4.heap.size, 0, none⟩ = some (.int .i64 q0) := cell_new w4 _ 36 0 0
  have e1 : (w4.alloc (.cells #[.int .i64 q0, .int .i64 q1, .int .i64 q2] 36)).cell? ⟨w4.heap.size, 1, none⟩ = some (.int .i64 q1) := cell_new w4 _ 36 0 1
  have e2 : (w4.alloc (.cells #[.int .i64 q0, .int .i64 q1, .int .i64 q2] 36)).cell? ⟨w4.heap.size, 2, none⟩ = some (.int .i64 q2) := cell_new w4 _ 36 0 2
  have hb5 : Below w4.heap.size w4 (w4.alloc (.cells #[.int .i64 q0, .int .i64 q1, .int .i64 q2] 36)) := (Below.refl _ _).alloc (Nat.le_refl _) _
  have hz5 : w4.heap.size < (w4.alloc (.cells #[.int .i64 q0, .int .i64 q1, .int .i64 q2] 36)).heap.size := by simp
  generalize w4.alloc (.cells #[.int .i64 q0, .int .i64 q1, .int .i64 q2] 36) = W5 at *
  have HB5 := Lib.hid (HB4.out.trans (hb5.mono hs4))
  have hs5 := HB5.out.size
  have H5 := Lib.hid (H4.out.below hb5 (Nat.le_refl _))
  have HA5 := Lib.hid (HT.out.below HB5.out (Nat.le_refl _))
  have HV5 := Lib.hid (HV.out.below HB5.out (Nat.le_refl _))
  have HE : Hid (∀ j, j < 3 → W5.cell? ⟨w4.heap.size, j, none⟩ = some (.int .i64 (qs q0 q1 q2 j))) := fun j hj => by
    match j, hj with
    | 0, _ => exact e0
    | 1, _ => exact e1
    | 2, _ => exact e2
  clear hb5 H4 HB4 HT HV e0 e1 e2
  refine (cloneC_any L A cap W5 HA5.out (by omega)).mono ?_
  rintro e w6 ⟨vb, rfl, hown, hb6⟩
  have HO := Lib.hid hown
  have HB6 := Lib.hid hb6
  have hvb : ∃ Ab capb, vb = .slice Ab L.length capb := by
    obtain ⟨-, A', cap', hv, -, -⟩ := own_rows hown
    exact ⟨A', cap', hv⟩
  obtain ⟨Ab, capb, rfl⟩ := hvb
  clear hown hb6
  go_wp2_with fail
  go_loopw [29] (fun i wr => ∃ k : Nat, k ≤ L.length ∧ i = .int .i64 k ∧ wr.ownsRow W5.heap.size 26 5 (.slice Ab L.length capb) L.length (cellsOf (exL q0 q1 q2 L k)) ∧ Below W5.heap.size W5 wr) (fun i _ => L.length - (intOf i).toNat)
  case atStart => exact ⟨0, Nat.zero_le _, rfl, by rw [exL_zero]; exact HO.out, HB6.out⟩
  case round =>
    obtain ⟨k, hk, rfl, hown, hbl⟩ := hrel
    clear HO HB6
    by_cases hlt : k < L.length
    · obtain ⟨g, rfl, hg0, hg1⟩ := own_form hown (by omega)
      obtain ⟨b, off, rfl, hbA, hbT⟩ : ∃ b off, A = some ⟨b, off, none⟩ ∧ b < W5.heap.size ∧ Tab W5 b off L := by
        rcases HA5.out with rfl | h
        · simp at hlt
        · exact h
      have HBT := Lib.hid hbT
      have HOWN := Lib.hid hown
      have HBL := Lib.hid hbl
      clear hbT hown hbl
      go_wp2
      obtain ⟨wo, rfl⟩ : ∃ wo : World, wo = wr := ⟨_, rfl⟩
      go_loopw [32] (fun i wr => ∃ j : Nat, j ≤ 3 ∧ i = .int .i64 j ∧ wr.ownsRow W5.heap.size 26 5 (.slice (some ⟨g, 0, none⟩) L.length capb) L.length (cellsOf (inL q0 q1 q2 L k j)) ∧ Below W5.heap.size W5 wr) (fun i _ => 3 - (intOf i).toNat)
      case atStart => exact ⟨0, Nat.zero_le _, rfl, by rw [inL_zero hlt]; exact HOWN.out, HBL.out⟩
      case round =>
        obtain ⟨j, hj, rfl, hown, hbl⟩ := hrel
        clear HOWN HBL
        by_cases hjl : j < 3
        · have p1 := (hbl.cell (p := ⟨w4.heap.size, j, none⟩) hz5).trans (HE.out j hjl)
          have hqj : qs q0 q1 q2 j < 3 := by
            match j, hjl with
            | 0, _ => exact hq0
            | 1, _ => exact hq1
            | 2, _ => exact hq2
          have p2 := (hbl.cell (p := ⟨b, off + k * 5 + 2 + qs q0 q1 q2 j, none⟩) hbA).trans (HBT.out.delta k hlt _ hqj)
          have p3 : ∃ u, wr.cell? ⟨g, k * 5 + 2 + j, none⟩ = some u := by
            rw [hown.cellAt (k * 5 + 2 + j) (by omega)]
            exact ⟨_, List.getElem?_eq_getElem (by rw [cellsOf_length, inL_length]; omega)⟩
          obtain ⟨u, p3⟩ := p3
          have p4 := hown.frozenAt (k * 5 + 2 + j)
          have HST := Lib.hid (hown.stored (k * 5 + 2 + j) (.int .i32 (dlt (rowAt L k) (qs q0 q1 q2 j))))
          rw [inL_step hlt hjl] at HST
          generalize dlt (rowAt L k) (qs q0 q1 q2 j) = dv at *
          generalize qs q0 q1 q2 j = qj at *
          have HOWN := Lib.hid hown
          have HBL := Lib.hid hbl
          clear hown hbl
          go_wp2
          go_region
          go_wp2
          go_roundw
          case rel => exact ⟨j + 1, by omega, by go_num, HST.out.1, (HBL.out.grown HST.out.2 HBL.out.size (fun x hx => by injection hx with hx; omega)).drew⟩
          case measure => simp [intOf]; omega
        · obtain rfl : j = 3 := by omega
          rw [inL_all hlt] at hown
          have HOWN := Lib.hid hown
          have HBL := Lib.hid hbl
          clear hown hbl
          rw [show ((3 : Nat) : Int) = 3 from rfl]
          go_wp2
          go_roundw
          case rel => exact ⟨k + 1, by omega, by go_num, HOWN.out, HBL.out⟩
          case measure => simp [intOf]; omega
    · obtain rfl : k = L.length := by omega
      rw [exL_all] at hown
      obtain ⟨-, A', cap', hv, hrows, -⟩ := own_rows hown
      cases hv
      have HM := Lib.hid hrows
      have HBL := Lib.hid hbl
      clear hown hrows hbl hk hlt
      go_wp2
      obtain ⟨wo, rfl⟩ : ∃ wo : World, wo = wr := ⟨_, rfl⟩
      go_loopw [52] (fun i wr => ∃ c : Nat, c ≤ 3 ∧ i = .int .i64 c ∧ RowsAt wr Ab (L.map (exch q0 q1 q2)) ∧ Below W5.heap.size W5 wr) (fun i _ => 3 - (intOf i).toNat)
      case atStart => exact ⟨0, Nat.zero_le _, rfl, HM.out, HBL.out⟩
      case round =>
        obtain ⟨c, hc, rfl, hM, hbl⟩ := hrel
        clear HM HBL
        have HM := Lib.hid hM
        have HBL := Lib.hid hbl
        have hsr := hbl.size
        clear hM hbl
        by_cases hcl : c < 3
        · have cAt := Lib.hid (at_any L A1 cap1 r wr (H5.out.below HBL.out (Nat.le_refl _)) HU.out hr (by omega))
          have cB := Lib.hid (fun (w1 : World) (hb1 : Below wr.heap.size wr w1) => ask_any (c : Int) r (by omega) (by omega) (L.map (exch q0 q1 q2)) Ab capb w1 ((HV5.out.below HBL.out (Nat.le_refl _)).below hb1 (Nat.le_refl _)) (HM.out.below hb1 (Nat.le_refl _)) (exch_rune (valid_rune HVA.out)) (by rw [List.length_map]; omega))
          have cA := Lib.hid (fun (f : Nat) (hf : f < 3) (w1 : World) (hb1 : Below wr.heap.size wr w1) => ask_any (f : Int) r (by omega) (by omega) L A cap w1 ((HV5.out.below HBL.out (Nat.le_refl _)).below hb1 (Nat.le_refl _)) ((HA5.out.below HBL.out (Nat.le_refl _)).below hb1 (Nat.le_refl _)) (valid_rune HVA.out) (by omega))
          simp only [Int.toNat_natCast, List.length_map] at cB cA
          have HREL : Hid (∀ w1, Below wr.heap.size wr w1 → RowsAt w1 Ab (L.map (exch q0 q1 q2)) ∧ Below W5.heap.size W5 w1) := fun w1 hb1 =>
            ⟨HM.out.below hb1 (Nat.le_refl _), HBL.out.trans (hb1.mono hsr)⟩
          rcases atM_cases L r with ⟨i, hi, hhas, hat⟩ | ⟨hno, hat⟩
          · rw [hat] at cAt
            have hqc : qs q0 q1 q2 c < 3 := by
              match c, hcl with
              | 0, _ => exact hq0
              | 1, _ => exact hq1
              | 2, _ => exact hq2
            have heq := exch_ask (q0 := q0) (q1 := q1) (q2 := q2) HVA.out HTU.out hi (hasB_iff.1 hhas) (c := c) (q := qs q0 q1 q2 c) (by
              match c, hcl with
              | 0, _ => rfl
              | 1, _ => rfl
              | 2, _ => rfl)
            rw [heq] at cB
            have p1 := HE.out c hcl
            have hpc : ∀ w1, Below wr.heap.size wr w1 → w1.cell? ⟨w4.heap.size, c, none⟩ = some (.int .i64 (qs q0 q1 q2 c)) := fun w1 hb1 =>
              (hb1.cell (p := ⟨w4.heap.size, c, none⟩) (by have := HBL.out.size; show w4.heap.size < _; omega)).trans ((HBL.out.cell (p := ⟨w4.heap.size, c, none⟩) hz5).trans p1)
            have HPC := Lib.hid hpc
            have cA' := Lib.hid (cA.out (qs q0 q1 q2 c) hqc)
            clear hat heq p1 hpc cA HE hhas
            generalize qs q0 q1 q2 c = qc at *
            generalize askM L qc r = ans at *
            go_wp2_with fail
            refine (cAt.out).mono ?_
            rintro e w1 ⟨rfl, hb1⟩
            have pc := HPC.out w1 hb1
            have HB1 := Lib.hid hb1
            clear hb1
            go_wp2_with fail
            refine (cB.out w1 HB1.out).mono ?_
            rintro e w2 ⟨rfl, hb2⟩
            have HB2 := Lib.hid (HB1.out.trans (hb2.mono HB1.out.size))
            clear hb2 pc
            go_wp2_with fail
            refine (cA'.out w2 HB2.out).mono ?_
            rintro e w3' ⟨rfl, hb3⟩
            have HB3 := Lib.hid (HB2.out.trans (hb3.mono HB2.out.size))
            clear hb3
            go_wp2_with fail
            go_roundw
            case rel => exact ⟨c + 1, by omega, by go_num, HREL.out _ HB3.out⟩
            case measure => simp [intOf]; omega
          · rw [hat] at cAt
            have hno' : ∀ i, i < L.length → ¬ hasR (rowAt L i) r := fun i hi h => by
              have := hno i hi
              rw [hasB_iff.2 h] at this
              cases this
            rw [exch_out hno'] at cB
            have cA' := Lib.hid (cA.out c hcl)
            clear hat hno hno' cA HE
            generalize askM L c r = ans at *
            go_wp2_with fail
            refine (cAt.out).mono ?_
            rintro e w1 ⟨rfl, hb1⟩
            have HB1 := Lib.hid hb1
            clear hb1
            go_wp2_with fail
            refine (cB.out w1 HB1.out).mono ?_
            rintro e w2 ⟨rfl, hb2⟩
            have HB2 := Lib.hid (HB1.out.trans (hb2.mono HB1.out.size))
            clear hb2
            go_wp2_with fail
            refine (cA'.out w2 HB2.out).mono ?_
            rintro e w3' ⟨rfl, hb3⟩
            have HB3 := Lib.hid (HB2.out.trans (hb3.mono HB2.out.size))
            clear hb3
            go_wp2_with fail
            go_roundw
            case rel => exact ⟨c + 1, by omega, by go_num, HREL.out _ HB3.out⟩
            case measure => simp [intOf]; omega
        · obtain rfl : c = 3 := by omega
          have hb7 : Below wr.heap.size wr (wr.alloc (.cells #[.int .u32 0, .int .u32 0, .int .i32 1, .int .i32 1, .int .i32 1] 26)) := (Below.refl _ _).alloc (Nat.le_refl _) _
          have cF := Lib.hid (implTitle_any 0 one1 (some ⟨wr.heap.size, 0, none⟩) 1 _ ((HV5.out.below HBL.out (Nat.le_refl _)).below hb7 (Nat.le_refl _)) (rows_new wr one1 26 #[.int .u32 0, .int .u32 0, .int .i32 1, .int .i32 1, .int .i32 1] rfl) one1_ok (by simp [one1]))
          rw [one1_ask] at cF
          have HB7 := Lib.hid (HBL.out.trans (hb7.mono hsr))
          clear hb7 HE
          rw [show ((3 : Nat) : Int) = 3 from rfl]
          go_wp2_with fail
          refine (cF.out).mono ?_
          rintro e w8 ⟨rfl, hb8⟩
          have HB8 := Lib.hid (HB5.out.trans ((HB7.out.trans (hb8.mono HB7.out.size)).mono hs5))
          clear hb8
          go_wp2_with fail
          go_ret
          exact ⟨rfl, HB8.out⟩

namespace fnCasesExchanged
theorem law (A : Option Addr) (len cap : Nat) (L : List Rw) (s r : Int) (w : World) (hV : CaseV w) (hT : RowsAt w A L) (hlen : L.length = len) (hu : U32Ok L) (hb : L.length * 20 ≤ 140737488351232) (_ : -9223372036854775808 ≤ s ∧ s ≤ 9223372036854775807) (hr : -2147483648 ≤ r ∧ r ≤ 2147483647) :
    Calls Tryd.prog 5 #[.slice A len cap, .int .i64 s, .int .i32 r] w fun e w' => e = .returned (.bool true) ∧ Below w.heap.size w w' := by
  subst hlen
  cases hv : validB L with
  | false => exact exch_invalid L A cap s r w hT hu hb (.inl hv)
  | true =>
    cases ht : anyTurnsB L with
    | true => exact exch_invalid L A cap s r w hT hu hb (.inr ⟨hv, ht⟩)
    | false => exact exch_valid L A cap s r w hV hT hu hr.2 hv ht
end fnCasesExchanged
end Go.Proofs.YtdabmoekhobgiaaDoor
