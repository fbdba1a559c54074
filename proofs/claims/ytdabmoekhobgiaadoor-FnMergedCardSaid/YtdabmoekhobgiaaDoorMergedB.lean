/-
  The walk of laws.FnMerged: it returns true. Conditions: the lists lie in memory, their bounds fit uint32, together they are short enough for one slice; unicode.CaseRanges holds the library's table.
-/
import Derived.Test.YtdabmoekhobgiaaDoorConcW
import Derived.Test.YtdabmoekhobgiaaDoorAlphaA
import Derived.Test.YtdabmoekhobgiaaDoorMovedA
namespace Go.Proofs.YtdabmoekhobgiaaDoor
open Go.RowKit

theorem noHas {L : List Rw} {r : Int} (h : ∀ j, j < L.length → hasB (rowAt L j) r = false) : ∀ j, j < L.length → ¬ hasR (rowAt L j) r := fun j hj hr => by
  have := h j hj
  rw [hasB_iff.2 hr] at this
  cases this
theorem merged_left {L M K : List Rw} (hv : validB L = true) (hk : validB K = true) (hp : K.Perm (L ++ M)) {r : Int} {i : Nat} (hi : i < L.length) (hr : hasR (rowAt L i) r) (c : Nat) : askM K c r = askM L c r := by
  rw [ask_mem (valid_srt hk) (hp.mem_iff.2 (List.mem_append_left _ (rowAt_mem hi))) hr, askM_in (valid_srt hv) hi hr]
theorem merged_right {L M K : List Rw} (hm : validB M = true) (hk : validB K = true) (hp : K.Perm (L ++ M)) {r : Int} {i : Nat} (hi : i < M.length) (hr : hasR (rowAt M i) r) (c : Nat) : askM K c r = askM M c r := by
  rw [ask_mem (valid_srt hk) (hp.mem_iff.2 (List.mem_append_right _ (rowAt_mem hi))) hr, askM_in (valid_srt hm) hi hr]
theorem row_mem {L : List Rw} {x : Rw} (h : x ∈ L) : ∃ j, j < L.length ∧ rowAt L j = x := by
  obtain ⟨j, hj, rfl⟩ := List.getElem_of_mem h
  exact ⟨j, hj, rowAt_some (List.getElem?_eq_getElem hj)⟩
theorem merged_none {L M K : List Rw} (hp : K.Perm (L ++ M)) {r : Int} (hl : ∀ j, j < L.length → ¬ hasR (rowAt L j) r) (hm : ∀ j, j < M.length → ¬ hasR (rowAt M j) r) (c : Nat) : askM K c r = std c r := by
  refine ask_no (fun z hz hr => ?_) c
  rcases List.mem_append.1 (hp.mem_iff.1 hz) with h | h
  · obtain ⟨j, hj, rfl⟩ := row_mem h
    exact hl j hj hr
  · obtain ⟨j, hj, rfl⟩ := row_mem h
    exact hm j hj hr
theorem merged_lo {L M : List Rw} (hu : U32Ok L) (hm : U32Ok M) : ∀ x ∈ L ++ M, x.1 < 4294967296 ∧ x.2.1 < 4294967296 := fun x hx => by
  rcases List.mem_append.1 hx with h | h
  · obtain ⟨j, hj, rfl⟩ := row_mem h
    exact hu j hj
  · obtain ⟨j, hj, rfl⟩ := row_mem h
    exact hm j hj
theorem merged_u32 {L M K : List Rw} (hu : U32Ok L) (hm : U32Ok M) (hp : K.Perm (L ++ M)) : U32Ok K := fun _ hi => merged_lo hu hm _ (hp.mem_iff.1 (rowAt_mem hi))

set_option maxHeartbeats 8000000 in
set_option maxRecDepth 1000000 in
theorem merged_in (L M : List Rw) (A B : Option Addr) (cap capB : Nat) (r : Int) (w : World) (hV : CaseV w) (hT : RowsAt w A L) (hTM : RowsAt w B M) (hu : U32Ok L) (huM : U32Ok M) (hr : r ≤ 2147483647) (hbL : L.length * 20 ≤ 140737488351232) (hbM : M.length * 20 ≤ 140737488351232) :
    Calls Tryd.prog 14 #[.slice A L.length cap, .slice B M.length capB, .int .i32 r] w fun e w' => e = .returned (.bool true) ∧ Below w.heap.size w w' := by
  have hlen : (L.length + M.length) * 20 ≤ 281474976710656 := by omega
  have cR := Lib.hid (ranges_own L A cap w hT (by omega))
  have cR2 := Lib.hid (fun (w1 : World) (hb1 : Below w.heap.size w w1) => ranges_own M B capB w1 (hTM.below hb1 (Nat.le_refl _)) (by omega))
  have HV := Lib.hid hV
  have HT := Lib.hid hT
  have HTM := Lib.hid hTM
  have HU := Lib.hid hu
  have HUM := Lib.hid huM
  clear hV hT hTM hu huM
  go_enter Tryd.func14, Tryd.ntmps14
  go_wp2_with fail
  refine (cR.out).mono ?_
  rintro e w1 ⟨v1, rfl, ho1, hb1⟩
  have HB1 := Lib.hid hb1
  have HF1 : Hid (∃ A1 cap1, v1 = .slice A1 L.length cap1 ∧ RowsAt w1 A1 L ∧ (A1 = none → cap1 = 0)) := by
    obtain ⟨-, A1, cap1, hv, hrows, -⟩ := own_rows ho1
    refine ⟨A1, cap1, hv, hrows, fun h => ?_⟩
    subst h
    rcases ho1.2 with ⟨h, -⟩ | ⟨g, cp, cur, h, -⟩
    · rw [hv] at h; simp only [Value.slice.injEq] at h; exact h.2.2
    · rw [hv] at h; cases h
  clear ho1 hb1
  obtain ⟨A1, cap1, rfl, hR1, hn1⟩ := HF1.out
  have H1 := Lib.hid hR1
  have HN1 := Lib.hid hn1
  clear hR1 hn1 HF1
  go_wp2_with fail
  refine (cR2.out w1 HB1.out).mono ?_
  rintro e w2 ⟨v2, rfl, ho2, hb2⟩
  have HB2 := Lib.hid (HB1.out.trans (hb2.mono HB1.out.size))
  have H2 := Lib.hid (H1.out.below hb2 (Nat.le_refl _))
  have HF2 : Hid (∃ B1 capb1, v2 = .slice B1 M.length capb1 ∧ RowsAt w2 B1 M ∧ (B1 = none → capb1 = 0)) := by
    obtain ⟨-, A1, cap1, hv, hrows, -⟩ := own_rows ho2
    refine ⟨A1, cap1, hv, hrows, fun h => ?_⟩
    subst h
    rcases ho2.2 with ⟨h, -⟩ | ⟨g, cp, cur, h, -⟩
    · rw [hv] at h; simp only [Value.slice.injEq] at h; exact h.2.2
    · rw [hv] at h; cases h
  clear ho2 hb2
  obtain ⟨B1, capb1, rfl, hR2, hn2⟩ := HF2.out
  have HM2 := Lib.hid hR2
  have HN2 := Lib.hid hn2
  clear hR2 hn2 HF2 cR cR2
  go_wp2_with fail
  have hb3 : Below w2.heap.size w2 (w2.alloc (.cells #[.slice A1 L.length cap1, .slice B1 M.length capb1] 33)) := (Below.refl _ _).alloc (Nat.le_refl _) _
  have hs3 : w2.heap.size < (w2.alloc (.cells #[.slice A1 L.length cap1, .slice B1 M.length capb1] 33)).heap.size := by simp
  have cC := Lib.hid (concat_wide L M A1 B1 cap1 capb1 w2.heap.size _ (H2.out.below hb3 (Nat.le_refl _)) (HM2.out.below hb3 (Nat.le_refl _)) HN1.out HN2.out hs3 (cell_new w2 _ 33 0 0) (cell_new w2 _ 33 0 1) hlen)
  have H3 := Lib.hid (H2.out.below hb3 (Nat.le_refl _))
  have HM3 := Lib.hid (HM2.out.below hb3 (Nat.le_refl _))
  have HB3 := Lib.hid (HB2.out.trans (hb3.mono HB2.out.size))
  generalize w2.alloc (.cells #[.slice A1 L.length cap1, .slice B1 M.length capb1] 33) = w3 at *
  clear hb3 hs3 HN1 HN2 H1 HB1 H2 HM2 HB2
  refine (cC.out).mono ?_
  rintro e w4 ⟨v4, rfl, ho4, hb4⟩
  obtain ⟨-, A4, cap4, hv4, hR4, -⟩ := own_rows ho4
  subst hv4
  have cS := Lib.hid (sorted_wide (L ++ M) A4 cap4 w4 hR4 (fun x hx => (merged_lo HU.out HUM.out x hx).1) (by rw [List.length_append]; exact hlen))
  rw [List.length_append] at cS
  have H4 := Lib.hid (H3.out.below hb4 (Nat.le_refl _))
  have HM4 := Lib.hid (HM3.out.below hb4 (Nat.le_refl _))
  have HB4 := Lib.hid (HB3.out.trans (hb4.mono HB3.out.size))
  clear ho4 hb4 hR4 cC H3 HM3 HB3
  go_wp2_with fail
  refine (cS.out).mono ?_
  rintro e w5 ⟨K, Ak, capk, rfl, hp, -, hK, hb5⟩
  have HP := Lib.hid hp
  have HK5 := Lib.hid hK
  have H5 := Lib.hid (H4.out.below hb5 (Nat.le_refl _))
  have HM5 := Lib.hid (HM4.out.below hb5 (Nat.le_refl _))
  have HB5 := Lib.hid (HB4.out.trans (hb5.mono HB4.out.size))
  have hkl : K.length = L.length + M.length := by rw [hp.length_eq, List.length_append]
  have HKL := Lib.hid hkl
  clear hp hK hb5 cS H4 HM4 HB4 hkl
  have cV := Lib.hid (valid_any L A1 cap1 w5 H5.out HU.out (by omega))
  have cVM := Lib.hid (fun (w6 : World) (hb6 : Below w5.heap.size w5 w6) => valid_any M B1 capb1 w6 (HM5.out.below hb6 (Nat.le_refl _)) HUM.out (by omega))
  have cVK := Lib.hid (fun (w6 : World) (hb6 : Below w5.heap.size w5 w6) => valid_any K Ak capk w6 (HK5.out.below hb6 (Nat.le_refl _)) (merged_u32 HU.out HUM.out HP.out) (by rw [HKL.out]; omega))
  cases hv : validB L
  · rw [hv] at cV
    clear hv
    go_wp2_with fail
    refine (cV.out).mono ?_
    rintro e w6 ⟨rfl, hb6⟩
    have HB6 := Lib.hid (HB5.out.trans (hb6.mono HB5.out.size))
    clear hb6
    go_wp2_with fail
    go_ret
    exact ⟨rfl, HB6.out⟩
  rw [hv] at cV
  have HVA := Lib.hid hv
  clear hv
  go_wp2_with fail
  refine (cV.out).mono ?_
  rintro e w6 ⟨rfl, hb6⟩
  have HB6 := Lib.hid hb6
  clear hb6 cV
  cases hm : validB M
  · simp only [hm] at cVM
    clear hm
    go_wp2_with fail
    refine (cVM.out w6 HB6.out).mono ?_
    rintro e w7 ⟨rfl, hb7⟩
    have HB7 := Lib.hid (HB5.out.trans ((HB6.out.trans (hb7.mono HB6.out.size)).mono HB5.out.size))
    clear hb7
    go_wp2_with fail
    go_ret
    exact ⟨rfl, HB7.out⟩
  simp only [hm] at cVM
  have HVB := Lib.hid hm
  clear hm
  go_wp2_with fail
  refine (cVM.out w6 HB6.out).mono ?_
  rintro e w7 ⟨rfl, hb7⟩
  have HB7 := Lib.hid (HB6.out.trans (hb7.mono HB6.out.size))
  clear hb7 cVM HB6
  cases hk : validB K
  · simp only [hk] at cVK
    clear hk
    go_wp2_with fail
    refine (cVK.out w7 HB7.out).mono ?_
    rintro e w8 ⟨rfl, hb8⟩
    have HB8 := Lib.hid (HB5.out.trans ((HB7.out.trans (hb8.mono HB7.out.size)).mono HB5.out.size))
    clear hb8
    go_wp2_with fail
    go_ret
    exact ⟨rfl, HB8.out⟩
  simp only [hk] at cVK
  have HVK := Lib.hid hk
  clear hk
  go_wp2_with fail
  refine (cVK.out w7 HB7.out).mono ?_
  rintro e w8 ⟨rfl, hb8⟩
  have HB8 := Lib.hid (HB7.out.trans (hb8.mono HB7.out.size))
  clear hb8 cVK HB7
  have hlL := valid_length HVA.out
  have hlM := valid_length HVB.out
  have hs5 := HB5.out.size
  have HA5 := Lib.hid (HT.out.below HB5.out (Nat.le_refl _))
  have HAM5 := Lib.hid (HTM.out.below HB5.out (Nat.le_refl _))
  have HV5 := Lib.hid (HV.out.below HB5.out (Nat.le_refl _))
  clear HT HTM HV
  go_wp2_with fail
  go_loopw [34] (fun i wr => ∃ c : Nat, c ≤ 3 ∧ i = .int .i64 c ∧ Below w5.heap.size w5 wr) (fun i _ => 3 - (intOf i).toNat)
  case atStart => exact ⟨0, Nat.zero_le _, rfl, HB8.out⟩
  case round =>
    obtain ⟨c, hc, rfl, hbl⟩ := hrel
    clear HB8
    have HBL := Lib.hid hbl
    have hsr := hbl.size
    have HREL : Hid (∀ w1, Below wr.heap.size wr w1 → Below w5.heap.size w5 w1) := fun w1 hb1 => hbl.trans (hb1.mono hsr)
    clear hbl
    by_cases hcl : c < 3
    · have cT := Lib.hid (anyTurns_any K Ak capk wr (HK5.out.below HBL.out (Nat.le_refl _)) (by rw [HKL.out]; omega))
      have cVr := Lib.hid (fun (w1 : World) (hb1 : Below wr.heap.size wr w1) => (HV5.out.below HBL.out (Nat.le_refl _)).below hb1 (Nat.le_refl _))
      have cS := Lib.hid (fun (w1 : World) (hb1 : Below wr.heap.size wr w1) => standard_any (c : Int) r (by omega) (by omega) w1 (cVr.out w1 hb1))
      have cL := Lib.hid (fun (w1 : World) (hb1 : Below wr.heap.size wr w1) => ask_any (c : Int) r (by omega) (by omega) L A cap w1 (cVr.out w1 hb1) ((HA5.out.below HBL.out (Nat.le_refl _)).below hb1 (Nat.le_refl _)) (valid_rune HVA.out) (by omega))
      have cM := Lib.hid (fun (w1 : World) (hb1 : Below wr.heap.size wr w1) => ask_any (c : Int) r (by omega) (by omega) M B capB w1 (cVr.out w1 hb1) ((HAM5.out.below HBL.out (Nat.le_refl _)).below hb1 (Nat.le_refl _)) (valid_rune HVB.out) (by omega))
      have cAtL := Lib.hid (fun (w1 : World) (hb1 : Below wr.heap.size wr w1) => at_any L A1 cap1 r w1 ((H5.out.below HBL.out (Nat.le_refl _)).below hb1 (Nat.le_refl _)) HU.out hr (by omega))
      have cAtM := Lib.hid (fun (w1 : World) (hb1 : Below wr.heap.size wr w1) => at_any M B1 capb1 r w1 ((HM5.out.below HBL.out (Nat.le_refl _)).below hb1 (Nat.le_refl _)) HUM.out hr (by omega))
      have cLi := Lib.hid (fun (w1 : World) (hb1 : Below wr.heap.size wr w1) => list_any K Ak capk w1 ((HK5.out.below HBL.out (Nat.le_refl _)).below hb1 (Nat.le_refl _)) (by rw [HKL.out]; omega))
      have cK := Lib.hid (fun (w1 : World) (hb1 : Below wr.heap.size wr w1) (A2 : Option Addr) (cap2 : Nat) (h2 : RowsAt w1 A2 K) => ask_any (c : Int) r (by omega) (by omega) K A2 cap2 w1 (cVr.out w1 hb1) h2 (valid_rune HVK.out) (by rw [HKL.out]; omega))
      simp only [Int.toNat_natCast] at cL cM cK cS
      clear cVr
      have HB00 := Lib.hid (Below.refl wr.heap.size wr)
      by_cases h2 : c = 2
      · subst h2
        generalize anyTurnsB K = tb at *
        cases tb
        · rw [show ((2 : Nat) : Int) = 2 from rfl] at cL cM cK cS ⊢
          go_wp2_with fail
          refine (cT.out).mono ?_
          rintro e w1 ⟨rfl, hb1⟩
          have HB1 := Lib.hid hb1
          clear hb1 cT
          rcases atM_cases L r with ⟨i, hi, hhas, hat⟩ | ⟨hno, hat⟩
          · rw [hat] at cAtL
            rw [merged_left HVA.out HVK.out HP.out hi (hasB_iff.1 hhas) 2] at cK
            clear hat hhas
            generalize askM L 2 r = ansL at *
            generalize std 2 r = ss at *
            go_wp2_with fail
            refine (cS.out _ HB1.out).mono ?_
            rintro e w2 ⟨rfl, qq, rfl⟩
            have HB2 := Lib.hid (below_drewN HB1.out qq)
            go_wp2_with fail
            refine (cAtL.out _ HB2.out).mono ?_
            rintro e w3 ⟨rfl, hb3⟩
            have HB3 := Lib.hid (HB2.out.trans (hb3.mono HB2.out.size))
            clear hb3
            go_wp2_with fail
            refine (cL.out w3 HB3.out).mono ?_
            rintro e w4 ⟨rfl, hb4⟩
            have HB4 := Lib.hid (HB3.out.trans (hb4.mono HB3.out.size))
            clear hb4
            go_wp2_with fail
            refine (cLi.out w4 HB4.out).mono ?_
            rintro e w8 ⟨A8, cap8, rfl, h8, hb8⟩
            have H8 := Lib.hid h8
            have HB8 := Lib.hid (HB4.out.trans (hb8.mono HB4.out.size))
            clear hb8 h8
            go_wp2_with fail
            refine (cK.out w8 HB8.out A8 cap8 H8.out).mono ?_
            rintro e w9 ⟨rfl, hb9⟩
            have HB9 := Lib.hid (HB8.out.trans (hb9.mono HB8.out.size))
            clear hb9
            go_wp2_with fail
            go_roundw
            case rel => exact ⟨3, by omega, rfl, HREL.out _ HB9.out⟩
            case measure => simp [intOf]
          rcases atM_cases M r with ⟨i, hi, hhas, hatM⟩ | ⟨hnoM, hatM⟩
          · rw [hat] at cAtL
            rw [hatM] at cAtM
            rw [merged_right HVB.out HVK.out HP.out hi (hasB_iff.1 hhas) 2] at cK
            clear hat hatM hhas hno
            generalize askM M 2 r = ansM at *
            generalize std 2 r = ss at *
            go_wp2_with fail
            refine (cS.out _ HB1.out).mono ?_
            rintro e w2 ⟨rfl, qq, rfl⟩
            have HB2 := Lib.hid (below_drewN HB1.out qq)
            go_wp2_with fail
            refine (cAtL.out _ HB2.out).mono ?_
            rintro e w3 ⟨rfl, hb3⟩
            have HB3 := Lib.hid (HB2.out.trans (hb3.mono HB2.out.size))
            clear hb3
            go_wp2_with fail
            refine (cAtM.out w3 HB3.out).mono ?_
            rintro e w4 ⟨rfl, hb4⟩
            have HB4 := Lib.hid (HB3.out.trans (hb4.mono HB3.out.size))
            clear hb4
            go_wp2_with fail
            refine (cM.out w4 HB4.out).mono ?_
            rintro e w5 ⟨rfl, hb5⟩
            have HC5 := Lib.hid (HB4.out.trans (hb5.mono HB4.out.size))
            clear hb5
            go_wp2_with fail
            refine (cLi.out w5 HC5.out).mono ?_
            rintro e w8 ⟨A8, cap8, rfl, h8, hb8⟩
            have H8 := Lib.hid h8
            have HB8 := Lib.hid (HC5.out.trans (hb8.mono HC5.out.size))
            clear hb8 h8
            go_wp2_with fail
            refine (cK.out w8 HB8.out A8 cap8 H8.out).mono ?_
            rintro e w9 ⟨rfl, hb9⟩
            have HB9 := Lib.hid (HB8.out.trans (hb9.mono HB8.out.size))
            clear hb9
            go_wp2_with fail
            go_roundw
            case rel => exact ⟨3, by omega, rfl, HREL.out _ HB9.out⟩
            case measure => simp [intOf]
          · rw [hat] at cAtL
            rw [hatM] at cAtM
            have hnl := noHas hno
            have hnm := noHas hnoM
            rw [askM_out hnl 2] at cL
            rw [askM_out hnm 2] at cM
            rw [merged_none HP.out hnl hnm 2] at cK
            clear hat hatM hno hnoM hnl hnm
            generalize std 2 r = ss at *
            go_wp2_with fail
            refine (cS.out _ HB1.out).mono ?_
            rintro e w2 ⟨rfl, qq, rfl⟩
            have HB2 := Lib.hid (below_drewN HB1.out qq)
            go_wp2_with fail
            refine (cAtL.out _ HB2.out).mono ?_
            rintro e w3 ⟨rfl, hb3⟩
            have HB3 := Lib.hid (HB2.out.trans (hb3.mono HB2.out.size))
            clear hb3
            go_wp2_with fail
            refine (cAtM.out w3 HB3.out).mono ?_
            rintro e w4 ⟨rfl, hb4⟩
            have HB4 := Lib.hid (HB3.out.trans (hb4.mono HB3.out.size))
            clear hb4
            go_wp2_with fail
            refine (cL.out w4 HB4.out).mono ?_
            rintro e w5 ⟨rfl, hb5⟩
            have HC5 := Lib.hid (HB4.out.trans (hb5.mono HB4.out.size))
            clear hb5
            go_wp2_with fail
            refine (cM.out w5 HC5.out).mono ?_
            rintro e w6 ⟨rfl, hb6⟩
            have HB6 := Lib.hid (HC5.out.trans (hb6.mono HC5.out.size))
            clear hb6
            go_wp2_with fail
            refine (cLi.out w6 HB6.out).mono ?_
            rintro e w8 ⟨A8, cap8, rfl, h8, hb8⟩
            have H8 := Lib.hid h8
            have HB8 := Lib.hid (HB6.out.trans (hb8.mono HB6.out.size))
            clear hb8 h8
            go_wp2_with fail
            refine (cK.out w8 HB8.out A8 cap8 H8.out).mono ?_
            rintro e w9 ⟨rfl, hb9⟩
            have HB9 := Lib.hid (HB8.out.trans (hb9.mono HB8.out.size))
            clear hb9
            go_wp2_with fail
            go_roundw
            case rel => exact ⟨3, by omega, rfl, HREL.out _ HB9.out⟩
            case measure => simp [intOf]
        · rw [show ((2 : Nat) : Int) = 2 from rfl]
          go_wp2_with fail
          refine (cT.out).mono ?_
          rintro e w1 ⟨rfl, hb1⟩
          have HB1 := Lib.hid hb1
          clear hb1
          go_wp2_with fail
          go_roundw
          case rel => exact ⟨3, by omega, rfl, HREL.out _ HB1.out⟩
          case measure => simp [intOf]
      · have t2 : ((c : Int) == 2) = false := by simp; omega
        clear h2 cT
        rcases atM_cases L r with ⟨i, hi, hhas, hat⟩ | ⟨hno, hat⟩
        · rw [hat] at cAtL
          rw [merged_left HVA.out HVK.out HP.out hi (hasB_iff.1 hhas) c] at cK
          clear hat hhas
          generalize askM L c r = ansL at *
          generalize std c r = ss at *
          go_wp2_with fail
          refine (cS.out _ HB00.out).mono ?_
          rintro e w2 ⟨rfl, qq, rfl⟩
          have HB2 := Lib.hid (below_drewN HB00.out qq)
          go_wp2_with fail
          refine (cAtL.out _ HB2.out).mono ?_
          rintro e w3 ⟨rfl, hb3⟩
          have HB3 := Lib.hid (HB2.out.trans (hb3.mono HB2.out.size))
          clear hb3
          go_wp2_with fail
          refine (cL.out w3 HB3.out).mono ?_
          rintro e w4 ⟨rfl, hb4⟩
          have HB4 := Lib.hid (HB3.out.trans (hb4.mono HB3.out.size))
          clear hb4
          go_wp2_with fail
          refine (cLi.out w4 HB4.out).mono ?_
          rintro e w8 ⟨A8, cap8, rfl, h8, hb8⟩
          have H8 := Lib.hid h8
          have HB8 := Lib.hid (HB4.out.trans (hb8.mono HB4.out.size))
          clear hb8 h8
          go_wp2_with fail
          refine (cK.out w8 HB8.out A8 cap8 H8.out).mono ?_
          rintro e w9 ⟨rfl, hb9⟩
          have HB9 := Lib.hid (HB8.out.trans (hb9.mono HB8.out.size))
          clear hb9
          go_wp2_with fail
          go_roundw
          case rel => exact ⟨c + 1, by omega, by go_num, HREL.out _ HB9.out⟩
          case measure => simp [intOf]; omega
        rcases atM_cases M r with ⟨i, hi, hhas, hatM⟩ | ⟨hnoM, hatM⟩
        · rw [hat] at cAtL
          rw [hatM] at cAtM
          rw [merged_right HVB.out HVK.out HP.out hi (hasB_iff.1 hhas) c] at cK
          clear hat hatM hhas hno
          generalize askM M c r = ansM at *
          generalize std c r = ss at *
          go_wp2_with fail
          refine (cS.out _ HB00.out).mono ?_
          rintro e w2 ⟨rfl, qq, rfl⟩
          have HB2 := Lib.hid (below_drewN HB00.out qq)
          go_wp2_with fail
          refine (cAtL.out _ HB2.out).mono ?_
          rintro e w3 ⟨rfl, hb3⟩
          have HB3 := Lib.hid (HB2.out.trans (hb3.mono HB2.out.size))
          clear hb3
          go_wp2_with fail
          refine (cAtM.out w3 HB3.out).mono ?_
          rintro e w4 ⟨rfl, hb4⟩
          have HB4 := Lib.hid (HB3.out.trans (hb4.mono HB3.out.size))
          clear hb4
          go_wp2_with fail
          refine (cM.out w4 HB4.out).mono ?_
          rintro e w5 ⟨rfl, hb5⟩
          have HC5 := Lib.hid (HB4.out.trans (hb5.mono HB4.out.size))
          clear hb5
          go_wp2_with fail
          refine (cLi.out w5 HC5.out).mono ?_
          rintro e w8 ⟨A8, cap8, rfl, h8, hb8⟩
          have H8 := Lib.hid h8
          have HB8 := Lib.hid (HC5.out.trans (hb8.mono HC5.out.size))
          clear hb8 h8
          go_wp2_with fail
          refine (cK.out w8 HB8.out A8 cap8 H8.out).mono ?_
          rintro e w9 ⟨rfl, hb9⟩
          have HB9 := Lib.hid (HB8.out.trans (hb9.mono HB8.out.size))
          clear hb9
          go_wp2_with fail
          go_roundw
          case rel => exact ⟨c + 1, by omega, by go_num, HREL.out _ HB9.out⟩
          case measure => simp [intOf]; omega
        · rw [hat] at cAtL
          rw [hatM] at cAtM
          have hnl := noHas hno
          have hnm := noHas hnoM
          rw [askM_out hnl c] at cL
          rw [askM_out hnm c] at cM
          rw [merged_none HP.out hnl hnm c] at cK
          clear hat hatM hno hnoM hnl hnm
          generalize std c r = ss at *
          go_wp2_with fail
          refine (cS.out _ HB00.out).mono ?_
          rintro e w2 ⟨rfl, qq, rfl⟩
          have HB2 := Lib.hid (below_drewN HB00.out qq)
          go_wp2_with fail
          refine (cAtL.out _ HB2.out).mono ?_
          rintro e w3 ⟨rfl, hb3⟩
          have HB3 := Lib.hid (HB2.out.trans (hb3.mono HB2.out.size))
          clear hb3
          go_wp2_with fail
          refine (cAtM.out w3 HB3.out).mono ?_
          rintro e w4 ⟨rfl, hb4⟩
          have HB4 := Lib.hid (HB3.out.trans (hb4.mono HB3.out.size))
          clear hb4
          go_wp2_with fail
          refine (cL.out w4 HB4.out).mono ?_
          rintro e w5 ⟨rfl, hb5⟩
          have HC5 := Lib.hid (HB4.out.trans (hb5.mono HB4.out.size))
          clear hb5
          go_wp2_with fail
          refine (cM.out w5 HC5.out).mono ?_
          rintro e w6 ⟨rfl, hb6⟩
          have HB6 := Lib.hid (HC5.out.trans (hb6.mono HC5.out.size))
          clear hb6
          go_wp2_with fail
          refine (cLi.out w6 HB6.out).mono ?_
          rintro e w8 ⟨A8, cap8, rfl, h8, hb8⟩
          have H8 := Lib.hid h8
          have HB8 := Lib.hid (HB6.out.trans (hb8.mono HB6.out.size))
          clear hb8 h8
          go_wp2_with fail
          refine (cK.out w8 HB8.out A8 cap8 H8.out).mono ?_
          rintro e w9 ⟨rfl, hb9⟩
          have HB9 := Lib.hid (HB8.out.trans (hb9.mono HB8.out.size))
          clear hb9
          go_wp2_with fail
          go_roundw
          case rel => exact ⟨c + 1, by omega, by go_num, HREL.out _ HB9.out⟩
          case measure => simp [intOf]; omega
    · obtain rfl : c = 3 := by omega
      have hb7 : Below wr.heap.size wr (wr.alloc (.cells #[.int .u32 0, .int .u32 0, .int .i32 1, .int .i32 1, .int .i32 1] 26)) := (Below.refl _ _).alloc (Nat.le_refl _) _
      have cF := Lib.hid (implUpper_any 0 one1 (some ⟨wr.heap.size, 0, none⟩) 1 _ ((HV5.out.below HBL.out (Nat.le_refl _)).below hb7 (Nat.le_refl _)) (rows_new wr one1 26 #[.int .u32 0, .int .u32 0, .int .i32 1, .int .i32 1, .int .i32 1] rfl) one1_ok (by simp [one1]))
      rw [one1_ask] at cF
      have HB7 := Lib.hid (HBL.out.trans (hb7.mono hsr))
      clear hb7
      rw [show ((3 : Nat) : Int) = 3 from rfl]
      go_wp2_with fail
      refine (cF.out).mono ?_
      rintro e w8 ⟨rfl, hb8⟩
      have HB8 := Lib.hid (HB5.out.trans ((HB7.out.trans (hb8.mono HB7.out.size)).mono hs5))
      clear hb8
      go_wp2_with fail
      go_ret
      exact ⟨rfl, HB8.out⟩

namespace fnMerged
theorem law (A : Option Addr) (len cap : Nat) (L : List Rw) (B : Option Addr) (lenB capB : Nat) (M : List Rw) (r : Int) (w : World) (hV : CaseV w) (hT : RowsAt w A L) (hlen : L.length = len) (hu : U32Ok L) (hb : L.length * 20 ≤ 140737488351232)
    (hTM : RowsAt w B M) (hlenM : M.length = lenB) (huM : U32Ok M) (hbM : M.length * 20 ≤ 140737488351232) (hr : -2147483648 ≤ r ∧ r ≤ 2147483647) :
    Calls Tryd.prog 14 #[.slice A len cap, .slice B lenB capB, .int .i32 r] w fun e w' => e = .returned (.bool true) ∧ Below w.heap.size w w' := by
  subst hlen hlenM
  exact merged_in L M A B cap capB r w hV hT hTM hu huM hr.2 hb hbM
end fnMerged
end Go.Proofs.YtdabmoekhobgiaaDoor
