/-
  The walk of laws.FnScripts: it returns true for every input. Conditions: the lists, the steps and the word lie in memory, their numbers fit their kinds, each list and the word are short enough to be copied; unicode.CaseRanges holds the library's table.
-/
import Derived.Test.YtdabmoekhobgiaaDoorScriptA
import Derived.Test.YtdabmoekhobgiaaDoorTabulB
namespace Go.Proofs.YtdabmoekhobgiaaDoor
open Go.RowKit

theorem own_form1 {w : World} {base n c : Nat} {e : TypeId} {A : Option Addr} {xs : List Value} (h : w.ownsRow base e 1 (.slice A n c) n xs) (hn : 0 < n) : ∃ g, A = some ⟨g, 0, none⟩ ∧ base ≤ g ∧ g < w.heap.size := by
  rcases h.2 with ⟨_, h0⟩ | ⟨g, cap, cur, hv, hg, hh, _⟩
  · omega
  · simp only [Value.slice.injEq] at hv
    refine ⟨g, hv.1, hg, ?_⟩
    rcases Nat.lt_or_ge g w.heap.size with hlt | hge
    · exact hlt
    · rw [Array.getElem?_eq_none hge] at hh; cases hh
theorem own_shape {w : World} {base n : Nat} {e : TypeId} {size : Nat} {v : Value} {xs : List Value} (h : w.ownsRow base e size v n xs) : ∃ A c, v = .slice A n c := by
  rcases h.2 with ⟨rfl, h0⟩ | ⟨g, cap, cur, hv, _⟩
  · subst h0; exact ⟨none, 0, rfl⟩
  · exact ⟨_, cap, hv⟩

set_option maxHeartbeats 16000000 in
set_option maxRecDepth 1000000 in
theorem fnScripts.law (A : Option Addr) (len cap : Nat) (LL : List (List Rw)) (Z : Option Addr) (lenz capz : Nat) (zs : List Int) (Wd : Option Addr) (lenw capw : Nat) (word : List Int) (w : World) (hV : CaseV w) (hL : ListsAt w A LL) (hn : LL.length = len) (hwf : ∀ L ∈ LL, U32Ok L ∧ L.length * 20 ≤ 140737488351232) (hl9 : len ≤ 4000000000000000000)
    (hS : IntsAt w Z zs) (hm : zs.length = lenz) (hm9 : lenz ≤ 9223372036854775807) (hwz : ∀ z ∈ zs, -9223372036854775808 ≤ z ∧ z ≤ 9223372036854775807)
    (hR : RunesAt w Wd word) (hlw : word.length = lenw) (hww : ∀ z ∈ word, -2147483648 ≤ z ∧ z ≤ 2147483647) (hw4 : lenw * 4 ≤ 140737488351232) :
    Calls Tryd.prog 10 #[.slice A len cap, .slice Z lenz capz, .slice Wd lenw capw] w fun e w' => e = .returned (.bool true) ∧ Below w.heap.size w w' := by
  have HN := Lib.hid hn
  have HM := Lib.hid hm
  have HV := Lib.hid hV
  have HL := Lib.hid hL
  have HS := Lib.hid hS
  have HWF := Lib.hid hwf
  have HWZ := Lib.hid hwz
  have HR := Lib.hid hR
  have HLW := Lib.hid hlw
  have HWW := Lib.hid hww
  clear hV hL hS hn hm hwf hwz hR hlw hww
  go_enter Tryd.func10, Tryd.ntmps10
  go_wp2
  go_loopw [22] (fun j wr => ∃ k : Nat, k ≤ len ∧ j = .int .i64 k ∧ (∀ i, i < k → validB (listAt LL i) = true) ∧ Below w.heap.size w wr) (fun j _ => len - (intOf j).toNat)
  case atStart => exact ⟨0, Nat.zero_le _, rfl, fun i hi => absurd hi (by omega), Below.refl _ _⟩
  case round =>
    obtain ⟨k, hk, rfl, hok, hbl⟩ := hrel
    have hsz := hbl.size
    by_cases hlt : k < len
    · obtain ⟨b, off, Ai, ci, rfl, hb, hc, hr⟩ := (HL.out.below hbl (Nat.le_refl _)).at_ (k := k) (by rw [HN.out]; exact hlt)
      obtain ⟨hu, h20⟩ := HWF.out _ (listAt_mem (LL := LL) (i := k) (by rw [HN.out]; exact hlt))
      have cR := Lib.hid (ranges_any (listAt LL k) Ai ci wr hr (by omega))
      have cV := Lib.hid (fun A1 cap1 (w1 : World) (h1 : RowsAt w1 A1 (listAt LL k)) => valid_any (listAt LL k) A1 cap1 w1 h1 hu (by omega))
      have HSTEP : Hid (validB (listAt LL k) = true → ∀ j, j < k + 1 → validB (listAt LL j) = true) := fun h j hj => by
        rcases Nat.lt_or_ge j k with h' | h'
        · exact hok j h'
        · obtain rfl : j = k := by omega
          exact h
      have HB := Lib.hid hbl
      clear hok hr hu hbl
      generalize validB (listAt LL k) = vb at *
      generalize hlk : (listAt LL k).length = lk at *
      clear hlk
      go_wp2_with fail
      refine (cR.out).mono ?_
      rintro e w1 ⟨A1, cap1, rfl, h1, hb1⟩
      have H1 := Lib.hid h1
      have HB1 := Lib.hid (HB.out.trans (hb1.mono hsz))
      clear h1 hb1
      go_wp2_with fail
      refine (cV.out _ _ _ H1.out).mono ?_
      rintro e w2 ⟨rfl, hb2⟩
      have HB2 := Lib.hid (HB1.out.trans (hb2.mono HB1.out.size))
      clear hb2
      cases vb
      · clear HSTEP
        go_wp2_with fail
        go_ret
        exact ⟨rfl, HB2.out⟩
      · have HV' := Lib.hid (HSTEP.out rfl)
        clear HSTEP
        go_wp2_with fail
        go_roundw
        case rel => exact ⟨k + 1, by omega, by go_num, HV'.out, HB2.out⟩
        case measure => simp [intOf]; omega
    · have HVA := Lib.hid (listAt_all (LL := LL) (fun j hj => hok j (by rw [HN.out] at hj; omega)))
      obtain ⟨W5, rfl⟩ : ∃ W5 : World, W5 = wr := ⟨_, rfl⟩
      have HB5 := Lib.hid hbl
      have HV5 := Lib.hid (HV.out.below hbl (Nat.le_refl _))
      have HL5 := Lib.hid (HL.out.below hbl (Nat.le_refl _))
      have HS5 := Lib.hid (HS.out.below hbl (Nat.le_refl _))
      have cC := Lib.hid (cloneW_any word Wd lenw capw W5 (HR.out.below hbl (Nat.le_refl _)) HLW.out (by omega))
      clear hok hbl HV HL HS HR
      obtain rfl : len = k := by omega
      go_wp2_with fail
      refine (cC.out).mono ?_
      rintro e w6 ⟨vw, rfl, hown, hb6⟩
      obtain ⟨Aw, capw2, rfl⟩ := own_shape hown
      have HO6 := Lib.hid hown
      have HB6 := Lib.hid hb6
      clear hown hb6 cC
      go_wp2_with fail
      go_loopw [35] (fun jj wr => ∃ (k : Nat) (xs : List Int), k ≤ lenz ∧ jj = .int .i64 k ∧ xs.length = lenw ∧ (∀ x ∈ xs, -2147483648 ≤ x ∧ x ≤ 2147483647) ∧ wr.ownsRow W5.heap.size 21 1 (.slice Aw lenw capw2) lenw (runeCells xs) ∧ Below W5.heap.size W5 wr) (fun jj _ => lenz - (intOf jj).toNat)
      case atStart => exact ⟨0, word, Nat.zero_le _, rfl, HLW.out, HWW.out, HO6.out, HB6.out⟩
      case round =>
        obtain ⟨k, xs, hk, rfl, hxl, hxb, hown, hbl⟩ := hrel
        clear HO6 HB6
        by_cases hlt : k < lenz
        · obtain ⟨b, off, rfl, hb, hc⟩ := (HS5.out.below hbl (Nat.le_refl _)).at_ (k := k) (by rw [HM.out]; exact hlt)
          have HW : Hid (wrap64 ((zs.getD k 0).tdiv 6) = (zs.getD k 0).tdiv 6) := wrap_tdiv (getD_wf HWZ.out k)
          generalize zs.getD k 0 = s at *
          have cP := Lib.hid (pick_any s 6 (by omega) (by omega) wr)
          have hs0 : 0 ≤ s % 6 := by omega
          have hs6 : s % 6 < 6 := by omega
          have hsz5 := hbl.size
          have hLr := HL5.out.below hbl (Nat.le_refl _)
          have HOe := Lib.hid hown
          have HBe := Lib.hid hbl
          have HXL := Lib.hid hxl
          have HXB := Lib.hid hxb
          clear hown hbl hxl hxb
          generalize hkd : s % 6 = kd at *
          have HKD := Lib.hid hkd
          clear hkd
          by_cases h3 : 3 ≤ kd
          · have b3 : decide (3 ≤ kd) = true := by simpa using h3
            clear hLr
            go_wp2_with fail
            refine (cP.out).mono ?_
            rintro e w' ⟨rfl, rfl⟩
            clear cP
            go_wp2_with fail
            obtain ⟨wo, rfl⟩ : ∃ wo : World, wo = wr := ⟨_, rfl⟩
            go_loopw [52] (fun jj wr => ∃ (j : Nat) (xs : List Int), j ≤ lenw ∧ jj = .int .i64 j ∧ xs.length = lenw ∧ (∀ x ∈ xs, -2147483648 ≤ x ∧ x ≤ 2147483647) ∧ wr.ownsRow W5.heap.size 21 1 (.slice Aw lenw capw2) lenw (runeCells xs) ∧ Below W5.heap.size W5 wr) (fun jj _ => lenw - (intOf jj).toNat)
            case atStart => exact ⟨0, xs, Nat.zero_le _, rfl, HXL.out, HXB.out, HOe.out, HBe.out⟩
            case round =>
              obtain ⟨j, ys, hj, rfl, hyl, hyb, hown, hbl⟩ := hrel
              clear HOe HBe
              have hsr := hbl.size
              by_cases hjl : j < lenw
              · obtain ⟨g, rfl, hg0, hg1⟩ := own_form1 hown (by omega)
                obtain ⟨y, hyj⟩ : ∃ y, ys[j]? = some y := ⟨ys[j]'(by omega), List.getElem?_eq_getElem (by omega)⟩
                have hyw := hyb y (List.mem_of_getElem? hyj)
                have p0 : wr.cell? ⟨g, j, none⟩ = some (.int .i32 y) := by rw [hown.cellAt j (by omega), runeCells, List.getElem?_map, hyj]; rfl
                have hVr := HV5.out.below hbl (Nat.le_refl _)
                have cS := Lib.hid (standard_any (kd % 3) y (by omega) (by omega) wr hVr)
                have hab := std_wf (c := (kd % 3).toNat) hyw.1 hyw.2
                have HST : Hid (∀ w1 v, Below wr.heap.size wr w1 → (w1.setCell ⟨g, j, none⟩ (.int .i32 v)).ownsRow W5.heap.size 21 1 (.slice (some ⟨g, 0, none⟩) lenw capw2) lenw (runeCells (ys.set j v)) ∧ Below W5.heap.size W5 (w1.setCell ⟨g, j, none⟩ (.int .i32 v)) ∧ w1.cell? ⟨g, j, none⟩ = some (.int .i32 y) ∧ w1.frozen? ⟨g, j, none⟩ = false) := fun w1 v hb1 => by
                  have ho := own_kept hown hb1
                  have hs := ho.stored j (.int .i32 v)
                  refine ⟨by have h := hs.1; rw [show (runeCells ys).set j (.int .i32 v) = runeCells (ys.set j v) by simp [runeCells, List.map_set]] at h; exact h, (hbl.trans (hb1.mono hsr)).setCell (p := ⟨g, j, none⟩) hg0 _, ?_, ho.frozenAt j⟩
                  exact (hb1.cell (p := ⟨g, j, none⟩) hg1).trans p0
                have HSET : Hid (∀ v, -2147483648 ≤ v → v ≤ 2147483647 → ∀ x ∈ ys.set j v, -2147483648 ≤ x ∧ x ≤ 2147483647) := fun v h1 h2 x hx => by
                  rcases List.mem_or_eq_of_mem_set hx with h | h
                  · exact hyb x h
                  · subst h; exact ⟨h1, h2⟩
                have HYL := Lib.hid hyl
                generalize std (kd % 3).toNat y = ans at *
                obtain ⟨ha0, ha1⟩ := hab
                clear hown hbl hVr hyb hyl hyw hyj
                go_wp2_with fail
                refine (cS.out).mono ?_
                rintro e w1 ⟨rfl, q, rfl⟩
                have HB1 := Lib.hid (below_drewN (Below.refl wr.heap.size wr) q)
                generalize wr.drewN q = w1 at *
                obtain ⟨k1, k2, k3, k4⟩ := HST.out w1 ans HB1.out
                have K1 := Lib.hid k1
                have K2 := Lib.hid k2
                have K3 := Lib.hid (HSET.out ans ha0 ha1)
                clear k1 k2 p0
                go_wp2_with fail
                go_roundw
                case rel => exact ⟨j + 1, _, by omega, by go_num, by rw [List.length_set]; exact HYL.out, K3.out, K1.out, K2.out⟩
                case measure => simp [intOf]; omega
              · have HO := Lib.hid hown
                have HBB := Lib.hid hbl
                have HYB := Lib.hid hyb
                have HYL := Lib.hid hyl
                clear hown hbl hyb hyl
                go_wp2
                go_roundw
                case rel => exact ⟨k + 1, ys, by omega, by go_num, HYL.out, HYB.out, HO.out, HBB.out⟩
                case measure => simp [intOf]; omega
          · have b3 : decide (3 ≤ kd) = false := by simpa using h3
            by_cases h0 : len = 0
            · have t0 : ((len : Int) == 0) = true := by simp; omega
              clear hLr h0
              go_wp2_with fail
              refine (cP.out).mono ?_
              rintro e w' ⟨rfl, rfl⟩
              clear cP
              go_wp2_with fail
              obtain ⟨wo, rfl⟩ : ∃ wo : World, wo = wr := ⟨_, rfl⟩
              go_loopw [52] (fun jj wr => ∃ (j : Nat) (xs : List Int), j ≤ lenw ∧ jj = .int .i64 j ∧ xs.length = lenw ∧ (∀ x ∈ xs, -2147483648 ≤ x ∧ x ≤ 2147483647) ∧ wr.ownsRow W5.heap.size 21 1 (.slice Aw lenw capw2) lenw (runeCells xs) ∧ Below W5.heap.size W5 wr) (fun jj _ => lenw - (intOf jj).toNat)
              case atStart => exact ⟨0, xs, Nat.zero_le _, rfl, HXL.out, HXB.out, HOe.out, HBe.out⟩
              case round =>
                obtain ⟨j, ys, hj, rfl, hyl, hyb, hown, hbl⟩ := hrel
                clear HOe HBe
                have hsr := hbl.size
                by_cases hjl : j < lenw
                · obtain ⟨g, rfl, hg0, hg1⟩ := own_form1 hown (by omega)
                  obtain ⟨y, hyj⟩ : ∃ y, ys[j]? = some y := ⟨ys[j]'(by omega), List.getElem?_eq_getElem (by omega)⟩
                  have hyw := hyb y (List.mem_of_getElem? hyj)
                  have p0 : wr.cell? ⟨g, j, none⟩ = some (.int .i32 y) := by rw [hown.cellAt j (by omega), runeCells, List.getElem?_map, hyj]; rfl
                  have hVr := HV5.out.below hbl (Nat.le_refl _)
                  have cS := Lib.hid (standard_any (kd % 3) y (by omega) (by omega) wr hVr)
                  have hab := std_wf (c := (kd % 3).toNat) hyw.1 hyw.2
                  have HST : Hid (∀ w1 v, Below wr.heap.size wr w1 → (w1.setCell ⟨g, j, none⟩ (.int .i32 v)).ownsRow W5.heap.size 21 1 (.slice (some ⟨g, 0, none⟩) lenw capw2) lenw (runeCells (ys.set j v)) ∧ Below W5.heap.size W5 (w1.setCell ⟨g, j, none⟩ (.int .i32 v)) ∧ w1.cell? ⟨g, j, none⟩ = some (.int .i32 y) ∧ w1.frozen? ⟨g, j, none⟩ = false) := fun w1 v hb1 => by
                    have ho := own_kept hown hb1
                    have hs := ho.stored j (.int .i32 v)
                    refine ⟨by have h := hs.1; rw [show (runeCells ys).set j (.int .i32 v) = runeCells (ys.set j v) by simp [runeCells, List.map_set]] at h; exact h, (hbl.trans (hb1.mono hsr)).setCell (p := ⟨g, j, none⟩) hg0 _, ?_, ho.frozenAt j⟩
                    exact (hb1.cell (p := ⟨g, j, none⟩) hg1).trans p0
                  have HSET : Hid (∀ v, -2147483648 ≤ v → v ≤ 2147483647 → ∀ x ∈ ys.set j v, -2147483648 ≤ x ∧ x ≤ 2147483647) := fun v h1 h2 x hx => by
                    rcases List.mem_or_eq_of_mem_set hx with h | h
                    · exact hyb x h
                    · subst h; exact ⟨h1, h2⟩
                  have HYL := Lib.hid hyl
                  generalize std (kd % 3).toNat y = ans at *
                  obtain ⟨ha0, ha1⟩ := hab
                  clear hown hbl hVr hyb hyl hyw hyj
                  go_wp2_with fail
                  refine (cS.out).mono ?_
                  rintro e w1 ⟨rfl, q, rfl⟩
                  have HB1 := Lib.hid (below_drewN (Below.refl wr.heap.size wr) q)
                  generalize wr.drewN q = w1 at *
                  obtain ⟨k1, k2, k3, k4⟩ := HST.out w1 ans HB1.out
                  have K1 := Lib.hid k1
                  have K2 := Lib.hid k2
                  have K3 := Lib.hid (HSET.out ans ha0 ha1)
                  clear k1 k2 p0
                  go_wp2_with fail
                  go_roundw
                  case rel => exact ⟨j + 1, _, by omega, by go_num, by rw [List.length_set]; exact HYL.out, K3.out, K1.out, K2.out⟩
                  case measure => simp [intOf]; omega
                · have HO := Lib.hid hown
                  have HBB := Lib.hid hbl
                  have HYB := Lib.hid hyb
                  have HYL := Lib.hid hyl
                  clear hown hbl hyb hyl
                  go_wp2
                  go_roundw
                  case rel => exact ⟨k + 1, ys, by omega, by go_num, HYL.out, HYB.out, HO.out, HBB.out⟩
                  case measure => simp [intOf]; omega
            · have t0 : ((len : Int) == 0) = false := by simp; omega
              have cP2 := Lib.hid (pick_any (s.tdiv 6) len (by omega) (by omega) wr)
              have e1 := Int.emod_nonneg (s.tdiv 6) (show (len : Int) ≠ 0 by omega)
              have e2 := Int.emod_lt_of_pos (s.tdiv 6) (show 0 < (len : Int) by omega)
              generalize hix : s.tdiv 6 % (len : Int) = ix at *
              have HIX := Lib.hid hix
              clear hix
              obtain ⟨j0, rfl⟩ := Int.eq_ofNat_of_zero_le e1
              obtain ⟨b', off', Ai, ci, rfl, hb', hc', hr'⟩ := hLr.at_ (k := j0) (by rw [HN.out]; omega)
              have hmem := listAt_mem (LL := LL) (i := j0) (by rw [HN.out]; omega)
              have HVJ := Lib.hid (HVA.out _ hmem)
              have HUJ := Lib.hid (HWF.out _ hmem).1
              have hlj := valid_length HVJ.out
              have HRW5 : Hid (RowsAt W5 Ai (listAt LL j0)) := by
                obtain ⟨b2, off2, Ai2, ci2, hA2, hb2, hc2, hr2⟩ := HL5.out.at_ (k := j0) (by rw [HN.out]; omega)
                cases hA2
                have hh := (HBe.out.cell (p := ⟨b', off' + j0, none⟩) hb2).trans hc2
                rw [hh] at hc'
                simp only [Option.some.injEq, Value.slice.injEq] at hc'
                rw [← hc'.1]
                exact hr2
              have HRW := HRW5
              clear hr' hmem hLr
              by_cases h2 : kd % 3 = 2
              · have t2 : (kd % 3 == 2) = true := by simpa using h2
                have cR1 := Lib.hid (ranges_any (listAt LL j0) Ai ci wr (HRW.out.below HBe.out (Nat.le_refl _)) (by omega))
                have cT1 := Lib.hid (fun A1 cap1 (w1 : World) (h1 : RowsAt w1 A1 (listAt LL j0)) => anyTurns_any (listAt LL j0) A1 cap1 w1 h1 (by omega))
                clear h2
                generalize anyTurnsB (listAt LL j0) = tb at *
                go_wp2_with fail
                refine (cP.out).mono ?_
                rintro e w' ⟨rfl, rfl⟩
                go_wp2_with fail
                rw [HW.out]
                refine (cP2.out).mono ?_
                rintro e w' ⟨rfl, rfl⟩
                clear cP cP2
                go_wp2_with fail
                refine (cR1.out).mono ?_
                rintro e w1 ⟨A1, cap1, rfl, h1, hb1⟩
                have H1 := Lib.hid h1
                have HB1 := Lib.hid hb1
                clear h1 hb1
                go_wp2_with fail
                refine (cT1.out _ _ _ H1.out).mono ?_
                rintro e w2 ⟨rfl, hb2⟩
                have HB2 := Lib.hid (HB1.out.trans (hb2.mono HB1.out.size))
                clear hb2 hc' hc
                have HOe2 := Lib.hid (own_kept HOe.out HB2.out)
                have HBe2 := Lib.hid (HBe.out.trans (HB2.out.mono hsz5))
                cases tb
                · clear HOe HBe
                  have HOe := HOe2
                  have HBe := HBe2
                  clear HOe2 HBe2
                  go_wp2_with fail
                  obtain ⟨wo, rfl⟩ : ∃ wo : World, wo = wr := ⟨_, rfl⟩
                  go_loopw [81] (fun jj wr => ∃ (j : Nat) (xs : List Int), j ≤ lenw ∧ jj = .int .i64 j ∧ xs.length = lenw ∧ (∀ x ∈ xs, -2147483648 ≤ x ∧ x ≤ 2147483647) ∧ wr.ownsRow W5.heap.size 21 1 (.slice Aw lenw capw2) lenw (runeCells xs) ∧ Below W5.heap.size W5 wr) (fun jj _ => lenw - (intOf jj).toNat)
                  case atStart => exact ⟨0, xs, Nat.zero_le _, rfl, HXL.out, HXB.out, HOe.out, HBe.out⟩
                  case round =>
                    obtain ⟨j, ys, hj, rfl, hyl, hyb, hown, hbl⟩ := hrel
                    clear HOe HBe
                    have hsr := hbl.size
                    by_cases hjl : j < lenw
                    · obtain ⟨g, rfl, hg0, hg1⟩ := own_form1 hown (by omega)
                      obtain ⟨y, hyj⟩ : ∃ y, ys[j]? = some y := ⟨ys[j]'(by omega), List.getElem?_eq_getElem (by omega)⟩
                      have hyw := hyb y (List.mem_of_getElem? hyj)
                      have p0 : wr.cell? ⟨g, j, none⟩ = some (.int .i32 y) := by rw [hown.cellAt j (by omega), runeCells, List.getElem?_map, hyj]; rfl
                      have hVr := HV5.out.below hbl (Nat.le_refl _)
                      have hRr := HRW.out.below hbl (Nat.le_refl _)
                      have cR := Lib.hid (ranges_any (listAt LL j0) Ai ci wr hRr (by omega))
                      have cA := Lib.hid (fun (w1 : World) (hb1 : Below wr.heap.size wr w1) => ask_any (kd % 3) y (by omega) (by omega) (listAt LL j0) Ai ci w1 (hVr.below hb1 (Nat.le_refl _)) (hRr.below hb1 (Nat.le_refl _)) (valid_rune HVJ.out) (by omega))
                      have hab := askM_wf (L := listAt LL j0) (c := (kd % 3).toNat) hyw.1 hyw.2
                      have HST : Hid (∀ w1 v, -2147483648 ≤ v → v ≤ 2147483647 → Below wr.heap.size wr w1 → (w1.setCell ⟨g, j, none⟩ (.int .i32 v)).ownsRow W5.heap.size 21 1 (.slice (some ⟨g, 0, none⟩) lenw capw2) lenw (runeCells (ys.set j v)) ∧ Below W5.heap.size W5 (w1.setCell ⟨g, j, none⟩ (.int .i32 v)) ∧ w1.cell? ⟨g, j, none⟩ = some (.int .i32 y) ∧ w1.frozen? ⟨g, j, none⟩ = false) := fun w1 v _ _ hb1 => by
                        have ho := own_kept hown hb1
                        have hs := ho.stored j (.int .i32 v)
                        refine ⟨by have h := hs.1; rw [show (runeCells ys).set j (.int .i32 v) = runeCells (ys.set j v) by simp [runeCells, List.map_set]] at h; exact h, (hbl.trans (hb1.mono hsr)).setCell (p := ⟨g, j, none⟩) hg0 _, ?_, ho.frozenAt j⟩
                        exact (hb1.cell (p := ⟨g, j, none⟩) hg1).trans p0
                      have HSET : Hid (∀ v, -2147483648 ≤ v → v ≤ 2147483647 → ∀ x ∈ ys.set j v, -2147483648 ≤ x ∧ x ≤ 2147483647) := fun v h1 h2 x hx => by
                        rcases List.mem_or_eq_of_mem_set hx with h | h
                        · exact hyb x h
                        · subst h; exact ⟨h1, h2⟩
                      have HYL := Lib.hid hyl
                      rcases atM_cases (listAt LL j0) y with ⟨i, hi', hhas, hat⟩ | ⟨hno, hat⟩
                      · have hask := mapRow_ask HVJ.out hi' (hasB_iff.1 hhas) (c := (kd % 3).toNat) (by omega)
                        have cM := Lib.hid (fun (w1 : World) (A1 : Option Addr) (cap1 : Nat) (h1 : RowsAt w1 A1 (listAt LL j0)) => mapped_some (listAt LL j0) A1 cap1 (kd % 3) y (by omega) (by omega) w1 h1 HUJ.out hyw.1 hyw.2 (by omega) hi' (hasB_iff.1 hhas) hat)
                        rw [hask] at cM
                        generalize askM (listAt LL j0) (kd % 3).toNat y = ans at *
                        obtain ⟨ha0, ha1⟩ := hab
                        clear hown hbl hVr hRr hyb hyl hyw hat hask hhas hyj
                        go_wp2_with fail
                        refine (cR.out).mono ?_
                        rintro e w1 ⟨A1, cap1, rfl, h1, hb1⟩
                        have H1 := Lib.hid h1
                        have HB1 := Lib.hid hb1
                        clear h1 hb1
                        go_wp2_with fail
                        refine (cM.out _ _ _ H1.out).mono ?_
                        rintro e w2 ⟨rfl, hb2⟩
                        have HB2 := Lib.hid (HB1.out.trans (hb2.mono HB1.out.size))
                        clear hb2
                        go_wp2_with fail
                        refine (cA.out w2 HB2.out).mono ?_
                        rintro e w3 ⟨rfl, hb3⟩
                        have HB3 := Lib.hid (HB2.out.trans (hb3.mono HB2.out.size))
                        clear hb3
                        obtain ⟨k1, k2, k3, k4⟩ := HST.out w3 ans ha0 ha1 HB3.out
                        have K1 := Lib.hid k1
                        have K2 := Lib.hid k2
                        have K3 := Lib.hid (HSET.out ans ha0 ha1)
                        clear k1 k2 p0
                        go_wp2_with fail
                        go_roundw
                        case rel => exact ⟨j + 1, _, by omega, by go_num, by rw [List.length_set]; exact HYL.out, K3.out, K1.out, K2.out⟩
                        case measure => simp [intOf]; omega
                      · have hno' : ∀ i, i < (listAt LL j0).length → ¬ hasR (rowAt (listAt LL j0) i) y := fun i hi h => by
                          have := hno i hi
                          rw [hasB_iff.2 h] at this
                          cases this
                        have cM := Lib.hid (fun (w1 : World) (A1 : Option Addr) (cap1 : Nat) (h1 : RowsAt w1 A1 (listAt LL j0)) => mapped_none (listAt LL j0) A1 cap1 (kd % 3) y w1 h1 HUJ.out hyw.2 (by omega) hat)
                        have cS := Lib.hid (fun (w1 : World) (hb1 : Below wr.heap.size wr w1) => standard_any (kd % 3) y (by omega) (by omega) w1 (hVr.below hb1 (Nat.le_refl _)))
                        rw [askM_out hno'] at cA hab
                        generalize std (kd % 3).toNat y = ans at *
                        obtain ⟨ha0, ha1⟩ := hab
                        clear hown hbl hVr hRr hyb hyl hyw hat hno hno' hyj
                        go_wp2_with fail
                        refine (cR.out).mono ?_
                        rintro e w1 ⟨A1, cap1, rfl, h1, hb1⟩
                        have H1 := Lib.hid h1
                        have HB1 := Lib.hid hb1
                        clear h1 hb1
                        go_wp2_with fail
                        refine (cM.out _ _ _ H1.out).mono ?_
                        rintro e w2 ⟨rfl, hb2⟩
                        have HB2 := Lib.hid (HB1.out.trans (hb2.mono HB1.out.size))
                        clear hb2
                        go_wp2_with fail
                        refine (cS.out w2 HB2.out).mono ?_
                        rintro e w2' ⟨rfl, q, rfl⟩
                        have HB2' := Lib.hid (below_drewN HB2.out q)
                        go_wp2_with fail
                        refine (cA.out _ HB2'.out).mono ?_
                        rintro e w3 ⟨rfl, hb3⟩
                        have HB3 := Lib.hid (HB2'.out.trans (hb3.mono HB2'.out.size))
                        clear hb3
                        obtain ⟨k1, k2, k3, k4⟩ := HST.out w3 ans ha0 ha1 HB3.out
                        have K1 := Lib.hid k1
                        have K2 := Lib.hid k2
                        have K3 := Lib.hid (HSET.out ans ha0 ha1)
                        clear k1 k2 p0
                        go_wp2_with fail
                        go_roundw
                        case rel => exact ⟨j + 1, _, by omega, by go_num, by rw [List.length_set]; exact HYL.out, K3.out, K1.out, K2.out⟩
                        case measure => simp [intOf]; omega
                    · have HO := Lib.hid hown
                      have HBB := Lib.hid hbl
                      have HYB := Lib.hid hyb
                      have HYL := Lib.hid hyl
                      clear hown hbl hyb hyl
                      go_wp2
                      go_roundw
                      case rel => exact ⟨k + 1, ys, by omega, by go_num, HYL.out, HYB.out, HO.out, HBB.out⟩
                      case measure => simp [intOf]; omega
                · go_wp2_with fail
                  go_roundw
                  case rel => exact ⟨k + 1, xs, by omega, by go_num, HXL.out, HXB.out, HOe2.out, HBe2.out⟩
                  case measure => simp [intOf]; omega
              · have t2 : (kd % 3 == 2) = false := by simpa using h2
                clear h2
                go_wp2_with fail
                refine (cP.out).mono ?_
                rintro e w' ⟨rfl, rfl⟩
                go_wp2_with fail
                rw [HW.out]
                refine (cP2.out).mono ?_
                rintro e w' ⟨rfl, rfl⟩
                clear cP cP2
                go_wp2_with fail
                clear hc' hc
                obtain ⟨wo, rfl⟩ : ∃ wo : World, wo = wr := ⟨_, rfl⟩
                go_loopw [81] (fun jj wr => ∃ (j : Nat) (xs : List Int), j ≤ lenw ∧ jj = .int .i64 j ∧ xs.length = lenw ∧ (∀ x ∈ xs, -2147483648 ≤ x ∧ x ≤ 2147483647) ∧ wr.ownsRow W5.heap.size 21 1 (.slice Aw lenw capw2) lenw (runeCells xs) ∧ Below W5.heap.size W5 wr) (fun jj _ => lenw - (intOf jj).toNat)
                case atStart => exact ⟨0, xs, Nat.zero_le _, rfl, HXL.out, HXB.out, HOe.out, HBe.out⟩
                case round =>
                  obtain ⟨j, ys, hj, rfl, hyl, hyb, hown, hbl⟩ := hrel
                  clear HOe HBe
                  have hsr := hbl.size
                  by_cases hjl : j < lenw
                  · obtain ⟨g, rfl, hg0, hg1⟩ := own_form1 hown (by omega)
                    obtain ⟨y, hyj⟩ : ∃ y, ys[j]? = some y := ⟨ys[j]'(by omega), List.getElem?_eq_getElem (by omega)⟩
                    have hyw := hyb y (List.mem_of_getElem? hyj)
                    have p0 : wr.cell? ⟨g, j, none⟩ = some (.int .i32 y) := by rw [hown.cellAt j (by omega), runeCells, List.getElem?_map, hyj]; rfl
                    have hVr := HV5.out.below hbl (Nat.le_refl _)
                    have hRr := HRW.out.below hbl (Nat.le_refl _)
                    have cR := Lib.hid (ranges_any (listAt LL j0) Ai ci wr hRr (by omega))
                    have cA := Lib.hid (fun (w1 : World) (hb1 : Below wr.heap.size wr w1) => ask_any (kd % 3) y (by omega) (by omega) (listAt LL j0) Ai ci w1 (hVr.below hb1 (Nat.le_refl _)) (hRr.below hb1 (Nat.le_refl _)) (valid_rune HVJ.out) (by omega))
                    have hab := askM_wf (L := listAt LL j0) (c := (kd % 3).toNat) hyw.1 hyw.2
                    have HST : Hid (∀ w1 v, -2147483648 ≤ v → v ≤ 2147483647 → Below wr.heap.size wr w1 → (w1.setCell ⟨g, j, none⟩ (.int .i32 v)).ownsRow W5.heap.size 21 1 (.slice (some ⟨g, 0, none⟩) lenw capw2) lenw (runeCells (ys.set j v)) ∧ Below W5.heap.size W5 (w1.setCell ⟨g, j, none⟩ (.int .i32 v)) ∧ w1.cell? ⟨g, j, none⟩ = some (.int .i32 y) ∧ w1.frozen? ⟨g, j, none⟩ = false) := fun w1 v _ _ hb1 => by
                      have ho := own_kept hown hb1
                      have hs := ho.stored j (.int .i32 v)
                      refine ⟨by have h := hs.1; rw [show (runeCells ys).set j (.int .i32 v) = runeCells (ys.set j v) by simp [runeCells, List.map_set]] at h; exact h, (hbl.trans (hb1.mono hsr)).setCell (p := ⟨g, j, none⟩) hg0 _, ?_, ho.frozenAt j⟩
                      exact (hb1.cell (p := ⟨g, j, none⟩) hg1).trans p0
                    have HSET : Hid (∀ v, -2147483648 ≤ v → v ≤ 2147483647 → ∀ x ∈ ys.set j v, -2147483648 ≤ x ∧ x ≤ 2147483647) := fun v h1 h2 x hx => by
                      rcases List.mem_or_eq_of_mem_set hx with h | h
                      · exact hyb x h
                      · subst h; exact ⟨h1, h2⟩
                    have HYL := Lib.hid hyl
                    rcases atM_cases (listAt LL j0) y with ⟨i, hi', hhas, hat⟩ | ⟨hno, hat⟩
                    · have hask := mapRow_ask HVJ.out hi' (hasB_iff.1 hhas) (c := (kd % 3).toNat) (by omega)
                      have cM := Lib.hid (fun (w1 : World) (A1 : Option Addr) (cap1 : Nat) (h1 : RowsAt w1 A1 (listAt LL j0)) => mapped_some (listAt LL j0) A1 cap1 (kd % 3) y (by omega) (by omega) w1 h1 HUJ.out hyw.1 hyw.2 (by omega) hi' (hasB_iff.1 hhas) hat)
                      rw [hask] at cM
                      generalize askM (listAt LL j0) (kd % 3).toNat y = ans at *
                      obtain ⟨ha0, ha1⟩ := hab
                      clear hown hbl hVr hRr hyb hyl hyw hat hask hhas hyj
                      go_wp2_with fail
                      refine (cR.out).mono ?_
                      rintro e w1 ⟨A1, cap1, rfl, h1, hb1⟩
                      have H1 := Lib.hid h1
                      have HB1 := Lib.hid hb1
                      clear h1 hb1
                      go_wp2_with fail
                      refine (cM.out _ _ _ H1.out).mono ?_
                      rintro e w2 ⟨rfl, hb2⟩
                      have HB2 := Lib.hid (HB1.out.trans (hb2.mono HB1.out.size))
                      clear hb2
                      go_wp2_with fail
                      refine (cA.out w2 HB2.out).mono ?_
                      rintro e w3 ⟨rfl, hb3⟩
                      have HB3 := Lib.hid (HB2.out.trans (hb3.mono HB2.out.size))
                      clear hb3
                      obtain ⟨k1, k2, k3, k4⟩ := HST.out w3 ans ha0 ha1 HB3.out
                      have K1 := Lib.hid k1
                      have K2 := Lib.hid k2
                      have K3 := Lib.hid (HSET.out ans ha0 ha1)
                      clear k1 k2 p0
                      go_wp2_with fail
                      go_roundw
                      case rel => exact ⟨j + 1, _, by omega, by go_num, by rw [List.length_set]; exact HYL.out, K3.out, K1.out, K2.out⟩
                      case measure => simp [intOf]; omega
                    · have hno' : ∀ i, i < (listAt LL j0).length → ¬ hasR (rowAt (listAt LL j0) i) y := fun i hi h => by
                        have := hno i hi
                        rw [hasB_iff.2 h] at this
                        cases this
                      have cM := Lib.hid (fun (w1 : World) (A1 : Option Addr) (cap1 : Nat) (h1 : RowsAt w1 A1 (listAt LL j0)) => mapped_none (listAt LL j0) A1 cap1 (kd % 3) y w1 h1 HUJ.out hyw.2 (by omega) hat)
                      have cS := Lib.hid (fun (w1 : World) (hb1 : Below wr.heap.size wr w1) => standard_any (kd % 3) y (by omega) (by omega) w1 (hVr.below hb1 (Nat.le_refl _)))
                      rw [askM_out hno'] at cA hab
                      generalize std (kd % 3).toNat y = ans at *
                      obtain ⟨ha0, ha1⟩ := hab
                      clear hown hbl hVr hRr hyb hyl hyw hat hno hno' hyj
                      go_wp2_with fail
                      refine (cR.out).mono ?_
                      rintro e w1 ⟨A1, cap1, rfl, h1, hb1⟩
                      have H1 := Lib.hid h1
                      have HB1 := Lib.hid hb1
                      clear h1 hb1
                      go_wp2_with fail
                      refine (cM.out _ _ _ H1.out).mono ?_
                      rintro e w2 ⟨rfl, hb2⟩
                      have HB2 := Lib.hid (HB1.out.trans (hb2.mono HB1.out.size))
                      clear hb2
                      go_wp2_with fail
                      refine (cS.out w2 HB2.out).mono ?_
                      rintro e w2' ⟨rfl, q, rfl⟩
                      have HB2' := Lib.hid (below_drewN HB2.out q)
                      go_wp2_with fail
                      refine (cA.out _ HB2'.out).mono ?_
                      rintro e w3 ⟨rfl, hb3⟩
                      have HB3 := Lib.hid (HB2'.out.trans (hb3.mono HB2'.out.size))
                      clear hb3
                      obtain ⟨k1, k2, k3, k4⟩ := HST.out w3 ans ha0 ha1 HB3.out
                      have K1 := Lib.hid k1
                      have K2 := Lib.hid k2
                      have K3 := Lib.hid (HSET.out ans ha0 ha1)
                      clear k1 k2 p0
                      go_wp2_with fail
                      go_roundw
                      case rel => exact ⟨j + 1, _, by omega, by go_num, by rw [List.length_set]; exact HYL.out, K3.out, K1.out, K2.out⟩
                      case measure => simp [intOf]; omega
                  · have HO := Lib.hid hown
                    have HBB := Lib.hid hbl
                    have HYB := Lib.hid hyb
                    have HYL := Lib.hid hyl
                    clear hown hbl hyb hyl
                    go_wp2
                    go_roundw
                    case rel => exact ⟨k + 1, ys, by omega, by go_num, HYL.out, HYB.out, HO.out, HBB.out⟩
                    case measure => simp [intOf]; omega
        · have HO := Lib.hid hown
          have hb7 : Below wr.heap.size wr (wr.alloc (.cells #[.int .u32 0, .int .u32 0, .int .i32 1, .int .i32 1, .int .i32 1] 26)) := (Below.refl _ _).alloc (Nat.le_refl _) _
          have cF := Lib.hid (implUpper_any 0 one1 (some ⟨wr.heap.size, 0, none⟩) 1 _ ((HV5.out.below hbl (Nat.le_refl _)).below hb7 (Nat.le_refl _)) (rows_new wr one1 26 #[.int .u32 0, .int .u32 0, .int .i32 1, .int .i32 1, .int .i32 1] rfl) one1_ok (by simp [one1]))
          rw [one1_ask] at cF
          have HB7 := Lib.hid (hbl.trans (hb7.mono hbl.size))
          clear hb7 hown hbl hxl hxb
          go_wp2_with fail
          refine (cF.out).mono ?_
          rintro e w8 ⟨rfl, hb8⟩
          have HB8 := Lib.hid (HB5.out.trans ((HB7.out.trans (hb8.mono HB7.out.size)).mono HB5.out.size))
          clear hb8
          go_wp2_with fail
          go_ret
          exact ⟨rfl, HB8.out⟩
end Go.Proofs.YtdabmoekhobgiaaDoor
