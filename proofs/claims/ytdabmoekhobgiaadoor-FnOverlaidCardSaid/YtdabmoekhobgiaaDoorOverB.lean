/-
  The walk of laws.FnOverlaid: it returns true for every input. Conditions: the lists lie in memory, their bounds fit uint32, they are short enough to be copied; unicode.CaseRanges holds the library's table.
-/
import Derived.Test.YtdabmoekhobgiaaDoorWithout
import Derived.Test.YtdabmoekhobgiaaDoorScriptA
import Derived.Laws.AppendOwnNone
namespace Go.Proofs.YtdabmoekhobgiaaDoor
open Go.RowKit

set_option maxHeartbeats 2000000 in
set_option maxRecDepth 1000000 in
theorem over_out (L M : List Rw) (A B : Option Addr) (cap capB : Nat) (r : Int) (w : World) (hT : RowsAt w A L) (hTM : RowsAt w B M) (hu : U32Ok L) (huM : U32Ok M) (hb : L.length * 20 ≤ 140737488351232) (hbM : M.length * 20 ≤ 140737488351232) (hv : validB L = false ∨ (validB L = true ∧ validB M = false) ∨ (validB L = true ∧ validB M = true ∧ anyTurnsB L = true)) :
    Calls Tryd.prog 11 #[.slice A L.length cap, .slice B M.length capB, .int .i32 r] w fun e w' => e = .returned (.bool true) ∧ Below w.heap.size w w' := by
  have cR := Lib.hid (ranges_any L A cap w hT (by omega))
  have cR2 := Lib.hid (fun (w1 : World) (hb1 : Below w.heap.size w w1) => ranges_any M B capB w1 (hTM.below hb1 (Nat.le_refl _)) (by omega))
  have cV := Lib.hid (fun A1 cap1 (w1 : World) (h1 : RowsAt w1 A1 L) => valid_any L A1 cap1 w1 h1 hu (by omega))
  have cVM := Lib.hid (fun A1 cap1 (w1 : World) (h1 : RowsAt w1 A1 M) => valid_any M A1 cap1 w1 h1 huM (by omega))
  have cT := Lib.hid (fun A1 cap1 (w1 : World) (h1 : RowsAt w1 A1 L) => anyTurns_any L A1 cap1 w1 h1 (by omega))
  clear hT hTM hu huM
  rcases hv with hv | ⟨hv, hm⟩ | ⟨hv, hm, ht⟩
  · rw [hv] at cV
    clear hv
    go_enter Tryd.func11, Tryd.ntmps11
    go_wp2_with fail
    refine (cR.out).mono ?_
    rintro e w1 ⟨A1, cap1, rfl, h1, hb1⟩
    have H1 := Lib.hid h1
    have HB1 := Lib.hid hb1
    clear h1 hb1
    go_wp2_with fail
    refine (cR2.out w1 HB1.out).mono ?_
    rintro e w2 ⟨B1, capb1, rfl, h2, hb2⟩
    have HM2 := Lib.hid h2
    have H2 := Lib.hid (H1.out.below hb2 (Nat.le_refl _))
    have HB2 := Lib.hid (HB1.out.trans (hb2.mono HB1.out.size))
    clear h2 hb2
    go_wp2_with fail
    refine (cV.out _ _ _ H2.out).mono ?_
    rintro e w3 ⟨rfl, hb3⟩
    have HM3 := Lib.hid (HM2.out.below hb3 (Nat.le_refl _))
    have H3 := Lib.hid (H2.out.below hb3 (Nat.le_refl _))
    have HB3 := Lib.hid (HB2.out.trans (hb3.mono HB2.out.size))
    clear hb3 H1 HB1 H2 HM2 HB2
    go_wp2_with fail
    go_ret
    exact ⟨rfl, HB3.out⟩
  · rw [hv] at cV
    rw [hm] at cVM
    clear hv hm
    go_enter Tryd.func11, Tryd.ntmps11
    go_wp2_with fail
    refine (cR.out).mono ?_
    rintro e w1 ⟨A1, cap1, rfl, h1, hb1⟩
    have H1 := Lib.hid h1
    have HB1 := Lib.hid hb1
    clear h1 hb1
    go_wp2_with fail
    refine (cR2.out w1 HB1.out).mono ?_
    rintro e w2 ⟨B1, capb1, rfl, h2, hb2⟩
    have HM2 := Lib.hid h2
    have H2 := Lib.hid (H1.out.below hb2 (Nat.le_refl _))
    have HB2 := Lib.hid (HB1.out.trans (hb2.mono HB1.out.size))
    clear h2 hb2
    go_wp2_with fail
    refine (cV.out _ _ _ H2.out).mono ?_
    rintro e w3 ⟨rfl, hb3⟩
    have HM3 := Lib.hid (HM2.out.below hb3 (Nat.le_refl _))
    have H3 := Lib.hid (H2.out.below hb3 (Nat.le_refl _))
    have HB3 := Lib.hid (HB2.out.trans (hb3.mono HB2.out.size))
    clear hb3 H1 HB1 H2 HM2 HB2
    go_wp2_with fail
    refine (cVM.out _ _ _ HM3.out).mono ?_
    rintro e w4 ⟨rfl, hb4⟩
    have HM4 := Lib.hid (HM3.out.below hb4 (Nat.le_refl _))
    have H4 := Lib.hid (H3.out.below hb4 (Nat.le_refl _))
    have HB4 := Lib.hid (HB3.out.trans (hb4.mono HB3.out.size))
    clear hb4 H3 HM3 HB3
    go_wp2_with fail
    go_ret
    exact ⟨rfl, HB4.out⟩
  · rw [hv] at cV
    rw [hm] at cVM
    rw [ht] at cT
    clear hv hm ht
    go_enter Tryd.func11, Tryd.ntmps11
    go_wp2_with fail
    refine (cR.out).mono ?_
    rintro e w1 ⟨A1, cap1, rfl, h1, hb1⟩
    have H1 := Lib.hid h1
    have HB1 := Lib.hid hb1
    clear h1 hb1
    go_wp2_with fail
    refine (cR2.out w1 HB1.out).mono ?_
    rintro e w2 ⟨B1, capb1, rfl, h2, hb2⟩
    have HM2 := Lib.hid h2
    have H2 := Lib.hid (H1.out.below hb2 (Nat.le_refl _))
    have HB2 := Lib.hid (HB1.out.trans (hb2.mono HB1.out.size))
    clear h2 hb2
    go_wp2_with fail
    refine (cV.out _ _ _ H2.out).mono ?_
    rintro e w3 ⟨rfl, hb3⟩
    have HM3 := Lib.hid (HM2.out.below hb3 (Nat.le_refl _))
    have H3 := Lib.hid (H2.out.below hb3 (Nat.le_refl _))
    have HB3 := Lib.hid (HB2.out.trans (hb3.mono HB2.out.size))
    clear hb3 H1 HB1 H2 HM2 HB2
    go_wp2_with fail
    refine (cVM.out _ _ _ HM3.out).mono ?_
    rintro e w4 ⟨rfl, hb4⟩
    have HM4 := Lib.hid (HM3.out.below hb4 (Nat.le_refl _))
    have H4 := Lib.hid (H3.out.below hb4 (Nat.le_refl _))
    have HB4 := Lib.hid (HB3.out.trans (hb4.mono HB3.out.size))
    clear hb4 H3 HM3 HB3
    go_wp2_with fail
    refine (cT.out _ _ _ H4.out).mono ?_
    rintro e W5 ⟨rfl, hb5⟩
    have HM5 := Lib.hid (HM4.out.below hb5 (Nat.le_refl _))
    have H5 := Lib.hid (H4.out.below hb5 (Nat.le_refl _))
    have HB5 := Lib.hid (HB4.out.trans (hb5.mono HB4.out.size))
    clear hb5 H4 HM4 HB4
    go_wp2_with fail
    go_ret
    exact ⟨rfl, HB5.out⟩

theorem over_nil (M : List Rw) : over M [] = M := by simp [over]
theorem over_all (M L : List Rw) : over M (L.take L.length) = over M L := by rw [List.take_of_length_le (Nat.le_refl _)]
theorem over_room {L M : List Rw} (hv : validB L = true) (hm : validB M = true) {k : Nat} (hk : k ≤ L.length) : (over M (L.take k)).length ≤ 1241247776768 := by
  have h1 := valid_length hv
  have h2 := valid_length hm
  have h := over_len (L := L.take k) (M := M) (fun x hx => (over_wo hv hm (List.mem_of_mem_take hx)).len)
  have h3 : (L.take k).length * (M.length + 1) ≤ 1114112 * 1114113 := Nat.mul_le_mul (by rw [List.length_take]; omega) (by omega)
  omega

set_option maxHeartbeats 8000000 in
set_option maxRecDepth 1000000 in
theorem over_in (L M : List Rw) (A B : Option Addr) (cap capB : Nat) (r : Int) (w : World) (hV : CaseV w) (hT : RowsAt w A L) (hTM : RowsAt w B M) (hu : U32Ok L) (huM : U32Ok M) (hr : r ≤ 2147483647) (hv : validB L = true) (hm : validB M = true) (ht : anyTurnsB L = false) :
    Calls Tryd.prog 11 #[.slice A L.length cap, .slice B M.length capB, .int .i32 r] w fun e w' => e = .returned (.bool true) ∧ Below w.heap.size w w' := by
  obtain ⟨i0, hi0, hz0, hz1, hz2⟩ := info_parts info42
  have hlen := valid_length hv
  have hlenM := valid_length hm
  have cR := Lib.hid (ranges_any L A cap w hT (by omega))
  have cR2 := Lib.hid (fun (w1 : World) (hb1 : Below w.heap.size w w1) => ranges_any M B capB w1 (hTM.below hb1 (Nat.le_refl _)) (by omega))
  have cV := Lib.hid (fun A1 cap1 (w1 : World) (h1 : RowsAt w1 A1 L) => valid_any L A1 cap1 w1 h1 hu (by omega))
  have cVM := Lib.hid (fun A1 cap1 (w1 : World) (h1 : RowsAt w1 A1 M) => valid_any M A1 cap1 w1 h1 huM (by omega))
  have cT := Lib.hid (fun A1 cap1 (w1 : World) (h1 : RowsAt w1 A1 L) => anyTurns_any L A1 cap1 w1 h1 (by omega))
  rw [hv] at cV
  rw [hm] at cVM
  rw [ht] at cT
  have HV := Lib.hid hV
  have HT := Lib.hid hT
  have HTM := Lib.hid hTM
  have HUM := Lib.hid huM
  have HVA := Lib.hid hv
  have HVB := Lib.hid hm
  have HTU := Lib.hid ht
  clear hV hT hTM hu huM hv hm ht
  go_enter Tryd.func11, Tryd.ntmps11
  go_wp2_with fail
  refine (cR.out).mono ?_
  rintro e w1 ⟨A1, cap1, rfl, h1, hb1⟩
  have H1 := Lib.hid h1
  have HB1 := Lib.hid hb1
  clear h1 hb1
  go_wp2_with fail
  refine (cR2.out w1 HB1.out).mono ?_
  rintro e w2 ⟨B1, capb1, rfl, h2, hb2⟩
  have HM2 := Lib.hid h2
  have H2 := Lib.hid (H1.out.below hb2 (Nat.le_refl _))
  have HB2 := Lib.hid (HB1.out.trans (hb2.mono HB1.out.size))
  clear h2 hb2
  go_wp2_with fail
  refine (cV.out _ _ _ H2.out).mono ?_
  rintro e w3 ⟨rfl, hb3⟩
  have HM3 := Lib.hid (HM2.out.below hb3 (Nat.le_refl _))
  have H3 := Lib.hid (H2.out.below hb3 (Nat.le_refl _))
  have HB3 := Lib.hid (HB2.out.trans (hb3.mono HB2.out.size))
  clear hb3 H1 HB1 H2 HM2 HB2
  go_wp2_with fail
  refine (cVM.out _ _ _ HM3.out).mono ?_
  rintro e w4 ⟨rfl, hb4⟩
  have HM4 := Lib.hid (HM3.out.below hb4 (Nat.le_refl _))
  have H4 := Lib.hid (H3.out.below hb4 (Nat.le_refl _))
  have HB4 := Lib.hid (HB3.out.trans (hb4.mono HB3.out.size))
  clear hb4 H3 HM3 HB3
  go_wp2_with fail
  refine (cT.out _ _ _ H4.out).mono ?_
  rintro e W5 ⟨rfl, hb5⟩
  have HM5 := Lib.hid (HM4.out.below hb5 (Nat.le_refl _))
  have H5 := Lib.hid (H4.out.below hb5 (Nat.le_refl _))
  have HB5 := Lib.hid (HB4.out.trans (hb5.mono HB4.out.size))
  clear hb5 H4 HM4 HB4
  go_wp2_with fail
  have hs5 := HB5.out.size
  have HA5 := Lib.hid (HT.out.below HB5.out (Nat.le_refl _))
  have HAM5 := Lib.hid (HTM.out.below HB5.out (Nat.le_refl _))
  have HV5 := Lib.hid (HV.out.below HB5.out (Nat.le_refl _))
  clear cR cR2 cV cVM cT HT HTM HV
  refine (cloneR_any M B1 capb1 W5 HM5.out (by omega)).mono ?_
  rintro e w6 ⟨vb, rfl, hown, hb6⟩
  have HO := Lib.hid hown
  have HB6 := Lib.hid hb6
  clear hown hb6
  go_wp2_with fail
  go_loopw [9, 34] (fun v i wr => ∃ k : Nat, k ≤ L.length ∧ i = .int .i64 k ∧ wr.ownsRow W5.heap.size 42 5 v (over M (L.take k)).length (cellsOf (over M (L.take k))) ∧ Below W5.heap.size W5 wr) (fun _ i _ => L.length - (intOf i).toNat)
  case atStart => exact ⟨0, Nat.zero_le _, rfl, by rw [List.take_zero, over_nil]; exact HO.out, HB6.out⟩
  case round =>
    obtain ⟨k, hk, rfl, hown, hbl⟩ := hrel
    clear HO HB6
    have hsr := hbl.size
    by_cases hlt : k < L.length
    · have HTK := Lib.hid (over_take (M := M) hlt)
      have hroom := over_room HVA.out HVB.out (k := k + 1) hlt
      rw [over_take hlt, List.length_append] at hroom
      generalize over M (L.take k) = os at *
      obtain ⟨b, off, rfl, hb, hc0, hc1, hc2, hc3, hc4⟩ := H5.out.row hlt
      have hbd := okRow_bounds (valid_row HVA.out hlt)
      generalize rowAt L k = x at *
      obtain ⟨x0, x1, x2, x3, x4⟩ := x
      dsimp only at hc0 hc1 hc2 hc3 hc4 hbd
      obtain ⟨hbd0, hbd1⟩ := hbd
      have q0 := (hbl.cell (p := ⟨b, off + k * 5, none⟩) hb).trans hc0
      have q1 := (hbl.cell (p := ⟨b, off + k * 5 + 1, none⟩) hb).trans hc1
      have q2 := (hbl.cell (p := ⟨b, off + k * 5 + 2, none⟩) hb).trans hc2
      have q3 := (hbl.cell (p := ⟨b, off + k * 5 + 3, none⟩) hb).trans hc3
      have q4 := (hbl.cell (p := ⟨b, off + k * 5 + 4, none⟩) hb).trans hc4
      clear hc0 hc1 hc2 hc3 hc4
      have hba : Below W5.heap.size W5 (wr.alloc (.cells #[.int .u32 x0, .int .u32 x1, .int .i32 x2, .int .i32 x3, .int .i32 x4] 42)) := hbl.alloc hsr _
      have cW := Lib.hid (without_any x0 x1 x2 x3 x4 M B1 capb1 _ (HM5.out.below hba (Nat.le_refl _)) HVB.out hbd0 hbd1)
      have HOA := Lib.hid (hown.alloc (.cells #[.int .u32 x0, .int .u32 x1, .int .i32 x2, .int .i32 x3, .int .i32 x4] 42))
      have HBA := Lib.hid hba
      have HR := Lib.hid hroom
      clear hown hbl hba hroom
      generalize wo (x0, x1, x2, x3, x4) M = W at *
      go_wp2_with fail
      refine (cW.out).mono ?_
      rintro e w1 ⟨v1, rfl, ho1, hb1⟩
      have hown1 := own_kept HOA.out hb1
      have hbl1 := HBA.out.trans (hb1.mono HBA.out.size)
      have hs1 := hbl1.size
      have HROWS := Lib.hid (own_rows ho1)
      rcases ho1.2 with ⟨rfl, h0⟩ | ⟨g, capg, cur, rfl, -⟩
      · have hW : W = [] := List.eq_nil_of_length_eq_zero h0
        subst hW
        rw [List.append_nil] at HTK
        have HBL1 := Lib.hid hbl1
        clear ho1 hb1 h0 HROWS cW hbl1 q0 q1 q2 q3 q4
        go_wp2_with (at_builtin; refine wpList_append_own_none rfl _ _ 33 rfl W5.heap.size 42 i0 5 Tryd.underlying33 hi0 _ _ _ rfl hown1 rfl ?_)
        have HO1 := Lib.hid hown1
        clear hown1
        go_wp2
        go_roundw
        case rel => exact ⟨k + 1, by omega, by go_num, by rw [HTK.out]; exact HO1.out, HBL1.out⟩
        case measure => simp [intOf]; omega
      · obtain ⟨-, A', cap', hv', hrows, -⟩ := HROWS.out
        cases hv'
        have HCL := Lib.hid hrows.cells
        have HONE := Lib.hid (cellsOf_one W)
        have HCN := Lib.hid (cellsOf_length W)
        have hR := HR.out
        clear ho1 hb1 HROWS cW hrows q0 q1 q2 q3 q4
        go_wp2_with (at_builtin; refine wpList_append_own _ rfl _ _ 33 rfl W5.heap.size 42 i0 _ 5 20 Tryd.underlying33 hi0 hz0 hz1 hz2 rfl (by decide) _ _ _ rfl hown1 ⟨g, 0, none⟩ W.length capg (cellsOf W) rfl HCN.out HCL.out HONE.out ?c3 ?c4 ?c5 ?_)
        case c3 => unfold maxLen; omega
        case c4 => omega
        case c5 => exact hs1
        intro v' w2 hown' hgrow _
        have hrel : w2.ownsRow W5.heap.size 42 5 v' (os ++ W).length (cellsOf (os ++ W)) := by
          rw [cellsOf_append, List.length_append]; exact hown'
        have hbl2 : Below W5.heap.size W5 w2 := hbl1.grown hgrow hs1 (fun g hg => (hown1.lt g hg).1)
        have HO4 := Lib.hid hrel
        have HB4 := Lib.hid hbl2
        clear hown' hgrow hown1 hbl1 hrel hbl2 hR
        go_wp2
        go_roundw
        case rel => exact ⟨k + 1, by omega, by go_num, by rw [HTK.out]; exact HO4.out, HB4.out⟩
        case measure => simp [intOf]; omega
    · obtain rfl : k = L.length := by omega
      have hroom := over_room HVA.out HVB.out (k := L.length) (Nat.le_refl _)
      rw [over_all] at hown hroom
      obtain ⟨-, A', cap', hv, hrows, -⟩ := own_rows hown
      subst hv
      have cS := Lib.hid (sorted_any (over M L) A' cap' wr hrows (fun x hx => by have := over_own HVA.out HVB.out x hx; omega) (by omega))
      have HBL := Lib.hid hbl
      clear hown hrows hbl hroom
      go_wp2_with fail
      refine (cS.out).mono ?_
      rintro e w7 ⟨K, Ak, capk, rfl, hp, hby, hK, hb7⟩
      have HP := Lib.hid hp
      have HBY := Lib.hid hby
      have HK0 := Lib.hid hK
      have HB7 := Lib.hid (HBL.out.trans (hb7.mono hsr))
      have hlk := over_length HVA.out HVB.out hp hby
      have HLK := Lib.hid hlk
      clear hp hby hK hb7 cS HBL hlk
      go_wp2_with fail
      obtain ⟨wo', rfl⟩ : ∃ wo' : World, wo' = wr := ⟨_, rfl⟩
      go_loopw [46] (fun i wr => ∃ c : Nat, c ≤ 3 ∧ i = .int .i64 c ∧ RowsAt wr Ak K ∧ Below W5.heap.size W5 wr) (fun i _ => 3 - (intOf i).toNat)
      case atStart => exact ⟨0, Nat.zero_le _, rfl, HK0.out, HB7.out⟩
      case round =>
        obtain ⟨c, hc, rfl, hK, hbl⟩ := hrel
        clear HK0 HB7
        have HK := Lib.hid hK
        have HBL := Lib.hid hbl
        have hsr := hbl.size
        have HREL : Hid (∀ w1, Below wr.heap.size wr w1 → RowsAt w1 Ak K ∧ Below W5.heap.size W5 w1) := fun w1 hb1 =>
          ⟨hK.below hb1 (Nat.le_refl _), hbl.trans (hb1.mono hsr)⟩
        clear hK hbl
        by_cases hcl : c < 3
        · have cT := Lib.hid (anyTurns_any M B1 capb1 wr (HM5.out.below HBL.out (Nat.le_refl _)) (by omega))
          have cVr := Lib.hid (fun (w1 : World) (hb1 : Below wr.heap.size wr w1) => (HV5.out.below HBL.out (Nat.le_refl _)).below hb1 (Nat.le_refl _))
          have cL := Lib.hid (fun (w1 : World) (hb1 : Below wr.heap.size wr w1) => ask_any (c : Int) r (by omega) (by omega) L A cap w1 (cVr.out w1 hb1) ((HA5.out.below HBL.out (Nat.le_refl _)).below hb1 (Nat.le_refl _)) (valid_rune HVA.out) (by omega))
          have cM := Lib.hid (fun (w1 : World) (hb1 : Below wr.heap.size wr w1) => ask_any (c : Int) r (by omega) (by omega) M B capB w1 (cVr.out w1 hb1) ((HAM5.out.below HBL.out (Nat.le_refl _)).below hb1 (Nat.le_refl _)) (valid_rune HVB.out) (by omega))
          have cAt := Lib.hid (fun (w1 : World) (hb1 : Below wr.heap.size wr w1) => at_any M B1 capb1 r w1 ((HM5.out.below HBL.out (Nat.le_refl _)).below hb1 (Nat.le_refl _)) HUM.out hr (by omega))
          have cLi := Lib.hid (fun (w1 : World) (hb1 : Below wr.heap.size wr w1) => list_any K Ak capk w1 (HK.out.below hb1 (Nat.le_refl _)) (by have := HLK.out; omega))
          have cK := Lib.hid (fun (w1 : World) (hb1 : Below wr.heap.size wr w1) (A2 : Option Addr) (cap2 : Nat) (h2 : RowsAt w1 A2 K) => ask_any (c : Int) r (by omega) (by omega) K A2 cap2 w1 (cVr.out w1 hb1) h2 (over_rune HVA.out HVB.out HP.out) (by have := HLK.out; omega))
          simp only [Int.toNat_natCast] at cL cM cK
          clear cVr
          have HB00 := Lib.hid (Below.refl wr.heap.size wr)
          by_cases h2 : c = 2
          · subst h2
            generalize anyTurnsB M = tb at *
            cases tb
            · rw [show ((2 : Nat) : Int) = 2 from rfl] at cL cM cK ⊢
              go_wp2_with fail
              refine (cT.out).mono ?_
              rintro e w1 ⟨rfl, hb1⟩
              have HB1 := Lib.hid hb1
              clear hb1 cT
              rcases atM_cases M r with ⟨i, hi, hhas, hat⟩ | ⟨hno, hat⟩
              · rw [hat] at cAt
                rw [over_top HVA.out HVB.out HP.out HBY.out hi (hasB_iff.1 hhas) 2] at cK
                clear hat hhas
                generalize askM L 2 r = ansL at *
                generalize askM M 2 r = ansM at *
                go_wp2_with fail
                refine (cL.out _ HB1.out).mono ?_
                rintro e w2 ⟨rfl, hb2⟩
                have HB2 := Lib.hid (HB1.out.trans (hb2.mono HB1.out.size))
                clear hb2
                go_wp2_with fail
                refine (cAt.out w2 HB2.out).mono ?_
                rintro e w3 ⟨rfl, hb3⟩
                have HB3 := Lib.hid (HB2.out.trans (hb3.mono HB2.out.size))
                clear hb3
                go_wp2_with fail
                refine (cM.out w3 HB3.out).mono ?_
                rintro e w4 ⟨rfl, hb4⟩
                have HB4 := Lib.hid (HB3.out.trans (hb4.mono HB3.out.size))
                clear hb4
                go_wp2_with fail
                refine (cLi.out w4 HB4.out).mono ?_
                rintro e w5 ⟨A5, cap5, rfl, h5, hb5⟩
                have H5' := Lib.hid h5
                have HB5' := Lib.hid (HB4.out.trans (hb5.mono HB4.out.size))
                clear hb5 h5
                go_wp2_with fail
                refine (cK.out w5 HB5'.out A5 cap5 H5'.out).mono ?_
                rintro e w6 ⟨rfl, hb6⟩
                have HB6 := Lib.hid (HB5'.out.trans (hb6.mono HB5'.out.size))
                clear hb6
                go_wp2_with fail
                go_roundw
                case rel => exact ⟨3, by omega, rfl, HREL.out _ HB6.out⟩
                case measure => simp [intOf]
              · rw [hat] at cAt
                rw [over_rest HVA.out HVB.out HTU.out HP.out HBY.out (fun j hj h => by have := hno j hj; rw [hasB_iff.2 h] at this; cases this) 2] at cK
                clear hat hno
                generalize askM L 2 r = ansL at *
                go_wp2_with fail
                refine (cL.out _ HB1.out).mono ?_
                rintro e w2 ⟨rfl, hb2⟩
                have HB2 := Lib.hid (HB1.out.trans (hb2.mono HB1.out.size))
                clear hb2
                go_wp2_with fail
                refine (cAt.out w2 HB2.out).mono ?_
                rintro e w4 ⟨rfl, hb4⟩
                have HB4 := Lib.hid (HB2.out.trans (hb4.mono HB2.out.size))
                clear hb4
                go_wp2_with fail
                refine (cLi.out w4 HB4.out).mono ?_
                rintro e w5 ⟨A5, cap5, rfl, h5, hb5⟩
                have H5' := Lib.hid h5
                have HB5' := Lib.hid (HB4.out.trans (hb5.mono HB4.out.size))
                clear hb5 h5
                go_wp2_with fail
                refine (cK.out w5 HB5'.out A5 cap5 H5'.out).mono ?_
                rintro e w6 ⟨rfl, hb6⟩
                have HB6 := Lib.hid (HB5'.out.trans (hb6.mono HB5'.out.size))
                clear hb6
                go_wp2_with fail
                go_roundw
                case rel => exact ⟨3, by omega, rfl, HREL.out _ HB6.out⟩
                case measure => simp [intOf]
            · rw [show ((2 : Nat) : Int) = 2 from rfl]
              go_wp2_with fail
              refine (cT.out).mono ?_
              rintro e w1 ⟨rfl, hb1⟩
              have HB1 := Lib.hid hb1
              clear hb1
              go_wp2_with fail
              go_roundw
              case rel => exact ⟨3, by omega, rfl, HREL.out _ HB1.out⟩
              case measure => simp [intOf]
          · have t2 : ((c : Int) == 2) = false := by simp; omega
            clear h2 cT
            rcases atM_cases M r with ⟨i, hi, hhas, hat⟩ | ⟨hno, hat⟩
            · rw [hat] at cAt
              rw [over_top HVA.out HVB.out HP.out HBY.out hi (hasB_iff.1 hhas) c] at cK
              clear hat hhas
              generalize askM L c r = ansL at *
              generalize askM M c r = ansM at *
              go_wp2_with fail
              refine (cL.out _ HB00.out).mono ?_
              rintro e w2 ⟨rfl, hb2⟩
              have HB2 := Lib.hid (HB00.out.trans (hb2.mono HB00.out.size))
              clear hb2
              go_wp2_with fail
              refine (cAt.out w2 HB2.out).mono ?_
              rintro e w3 ⟨rfl, hb3⟩
              have HB3 := Lib.hid (HB2.out.trans (hb3.mono HB2.out.size))
              clear hb3
              go_wp2_with fail
              refine (cM.out w3 HB3.out).mono ?_
              rintro e w4 ⟨rfl, hb4⟩
              have HB4 := Lib.hid (HB3.out.trans (hb4.mono HB3.out.size))
              clear hb4
              go_wp2_with fail
              refine (cLi.out w4 HB4.out).mono ?_
              rintro e w5 ⟨A5, cap5, rfl, h5, hb5⟩
              have H5' := Lib.hid h5
              have HB5' := Lib.hid (HB4.out.trans (hb5.mono HB4.out.size))
              clear hb5 h5
              go_wp2_with fail
              refine (cK.out w5 HB5'.out A5 cap5 H5'.out).mono ?_
              rintro e w6 ⟨rfl, hb6⟩
              have HB6 := Lib.hid (HB5'.out.trans (hb6.mono HB5'.out.size))
              clear hb6
              go_wp2_with fail
              go_roundw
              case rel => exact ⟨c + 1, by omega, by go_num, HREL.out _ HB6.out⟩
              case measure => simp [intOf]; omega
            · rw [hat] at cAt
              rw [over_rest HVA.out HVB.out HTU.out HP.out HBY.out (fun j hj h => by have := hno j hj; rw [hasB_iff.2 h] at this; cases this) c] at cK
              clear hat hno
              generalize askM L c r = ansL at *
              go_wp2_with fail
              refine (cL.out _ HB00.out).mono ?_
              rintro e w2 ⟨rfl, hb2⟩
              have HB2 := Lib.hid (HB00.out.trans (hb2.mono HB00.out.size))
              clear hb2
              go_wp2_with fail
              refine (cAt.out w2 HB2.out).mono ?_
              rintro e w4 ⟨rfl, hb4⟩
              have HB4 := Lib.hid (HB2.out.trans (hb4.mono HB2.out.size))
              clear hb4
              go_wp2_with fail
              refine (cLi.out w4 HB4.out).mono ?_
              rintro e w5 ⟨A5, cap5, rfl, h5, hb5⟩
              have H5' := Lib.hid h5
              have HB5' := Lib.hid (HB4.out.trans (hb5.mono HB4.out.size))
              clear hb5 h5
              go_wp2_with fail
              refine (cK.out w5 HB5'.out A5 cap5 H5'.out).mono ?_
              rintro e w6 ⟨rfl, hb6⟩
              have HB6 := Lib.hid (HB5'.out.trans (hb6.mono HB5'.out.size))
              clear hb6
              go_wp2_with fail
              go_roundw
              case rel => exact ⟨c + 1, by omega, by go_num, HREL.out _ HB6.out⟩
              case measure => simp [intOf]; omega
        · obtain rfl : c = 3 := by omega
          have hb7 : Below wr.heap.size wr (wr.alloc (.cells #[.int .u32 0, .int .u32 0, .int .i32 1, .int .i32 1, .int .i32 1] 26)) := (Below.refl _ _).alloc (Nat.le_refl _) _
          have cF := Lib.hid (implLower_any 0 one1 (some ⟨wr.heap.size, 0, none⟩) 1 _ ((HV5.out.below HBL.out (Nat.le_refl _)).below hb7 (Nat.le_refl _)) (rows_new wr one1 26 #[.int .u32 0, .int .u32 0, .int .i32 1, .int .i32 1, .int .i32 1] rfl) one1_ok (by simp [one1]))
          rw [one1_ask] at cF
          have HB7 := Lib.hid (HBL.out.trans (hb7.mono hsr))
          clear hb7
          rw [show ((3 : Nat) : Int) = 3 from rfl]
          go_wp2_with fail
          refine (cF.out).mono ?_
          rintro e w8 ⟨rfl, hb8⟩
          have HB8 := Lib.hid (HB5.out.trans ((HB7.out.trans (hb8.mono HB7.out.size)).mono hs5))
          clear hb8
          go_wp2_with fail
          go_ret
          exact ⟨rfl, HB8.out⟩

namespace fnOverlaid
theorem law (A : Option Addr) (len cap : Nat) (L : List Rw) (B : Option Addr) (lenB capB : Nat) (M : List Rw) (r : Int) (w : World) (hV : CaseV w) (hT : RowsAt w A L) (hlen : L.length = len) (hu : U32Ok L) (hb : L.length * 20 ≤ 140737488351232)
    (hTM : RowsAt w B M) (hlenM : M.length = lenB) (huM : U32Ok M) (hbM : M.length * 20 ≤ 140737488351232) (hr : -2147483648 ≤ r ∧ r ≤ 2147483647) :
    Calls Tryd.prog 11 #[.slice A len cap, .slice B lenB capB, .int .i32 r] w fun e w' => e = .returned (.bool true) ∧ Below w.heap.size w w' := by
  subst hlen hlenM
  cases hv : validB L with
  | false => exact over_out L M A B cap capB r w hT hTM hu huM hb hbM (.inl hv)
  | true =>
    cases hm : validB M with
    | false => exact over_out L M A B cap capB r w hT hTM hu huM hb hbM (.inr (.inl ⟨hv, hm⟩))
    | true =>
      cases ht : anyTurnsB L with
      | true => exact over_out L M A B cap capB r w hT hTM hu huM hb hbM (.inr (.inr ⟨hv, hm, ht⟩))
      | false => exact over_in L M A B cap capB r w hV hT hTM hu huM hr.2 hv hm ht
end fnOverlaid
end Go.Proofs.YtdabmoekhobgiaaDoor
