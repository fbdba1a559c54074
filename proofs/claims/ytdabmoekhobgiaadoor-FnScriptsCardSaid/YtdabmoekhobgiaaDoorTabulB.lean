/-
  The walk of laws.FnTabulated: it returns true for every input. Conditions: the lists and the steps lie in memory, their numbers fit their kinds, each list is short enough to be copied; unicode.CaseRanges holds the library's table.
-/
import Derived.Test.YtdabmoekhobgiaaDoorThru
import Derived.Test.YtdabmoekhobgiaaDoorStandB
namespace Go.Proofs.YtdabmoekhobgiaaDoor
open Go.RowKit

def thD (LL : List (List Rw)) (zs : List Int) (lo : Nat) (j : Nat) : Int × Int × Int := (thr LL zs ((lo : Int) + j) - ((lo : Int) + j), thr LL zs ((lo : Int) + j) - ((lo : Int) + j), thr LL zs ((lo : Int) + j) - ((lo : Int) + j))
theorem tab_rune {LL : List (List Rw)} {zs : List Int} {lo n : Nat} (h : lo + n ≤ 1114112) : RuneOk (single (runX lo) (thD LL zs lo) n) := single_rune fun i hi => by unfold runX; omega
theorem tab_hit {LL : List (List Rw)} {zs : List Int} (hv : ∀ L ∈ LL, validB L = true) {lo n : Nat} (h : lo + n ≤ 1114112) {r : Int} (h0 : (lo : Int) ≤ r) (h1 : r < (lo : Int) + n) (c : Nat) : askM (single (runX lo) (thD LL zs lo) n) c r = thr LL zs r := by
  obtain ⟨j, hj⟩ := Int.eq_ofNat_of_zero_le (show 0 ≤ r - lo by omega)
  have e : r = ((runX lo j : Nat) : Int) := by unfold runX; omega
  have e' : (lo : Int) + j = r := by omega
  have hs := thr_code hv zs (r := r) (by omega) (by omega)
  have hd : dlt (runX lo j, runX lo j, thD LL zs lo j) c = thr LL zs r - r := by
    unfold thD
    rw [dlt_same, e']
  rw [e]
  refine single_ask (fun a b hab _ => by unfold runX; omega) (show j < n by omega) ?_ ?_ ?_ ?_
  · rw [hd]; omega
  · rw [hd, ← e]; omega
  · rw [← e]; omega
  · rw [← e]; omega
theorem tab_miss {LL : List (List Rw)} {zs : List Int} {lo n : Nat} {r : Int} (h : r < (lo : Int) ∨ (lo : Int) + n ≤ r) (c : Nat) : askM (single (runX lo) (thD LL zs lo) n) c r = std c r :=
  single_out (fun j hj he => by unfold runX at he; omega) c
theorem tab_cells (LL : List (List Rw)) (zs : List Int) (lo k : Nat) : rowCells (runX lo k, runX lo k, thD LL zs lo k) = [.int .u32 ((lo : Int) + k), .int .u32 ((lo : Int) + k), .int .i32 (thr LL zs ((lo : Int) + k) - ((lo : Int) + k)), .int .i32 (thr LL zs ((lo : Int) + k) - ((lo : Int) + k)), .int .i32 (thr LL zs ((lo : Int) + k) - ((lo : Int) + k))] := by
  have e : ((runX lo k : Nat) : Int) = (lo : Int) + k := by unfold runX; simp
  unfold rowCells thD
  dsimp only
  rw [e]

theorem listAt_all {LL : List (List Rw)} (h : ∀ j, j < LL.length → validB (listAt LL j) = true) : ∀ L ∈ LL, validB L = true := by
  intro L hL
  obtain ⟨i, hi, rfl⟩ := List.mem_iff_getElem.1 hL
  have := h i hi
  unfold listAt at this
  rw [List.getD_eq_getElem?_getD, List.getElem?_eq_getElem hi] at this
  exact this

set_option maxHeartbeats 8000000 in
set_option maxRecDepth 1000000 in
theorem fnTabulated.law (A : Option Addr) (len cap : Nat) (LL : List (List Rw)) (Z : Option Addr) (lenz capz : Nat) (zs : List Int) (lo n r : Int) (w : World) (hV : CaseV w) (hL : ListsAt w A LL) (hn : LL.length = len) (hwf : ∀ L ∈ LL, U32Ok L ∧ L.length * 20 ≤ 140737488351232) (hl9 : len ≤ 4000000000000000000)
    (hS : IntsAt w Z zs) (hm : zs.length = lenz) (hm9 : lenz ≤ 9223372036854775807) (hwz : ∀ z ∈ zs, -9223372036854775808 ≤ z ∧ z ≤ 9223372036854775807) (b0 : -2147483648 ≤ lo ∧ lo ≤ 2147483647) (_ : -9223372036854775808 ≤ n ∧ n ≤ 9223372036854775807) (_ : -2147483648 ≤ r ∧ r ≤ 2147483647) :
    Calls Tryd.prog 9 #[.slice A len cap, .slice Z lenz capz, .int .i32 lo, .int .i64 n, .int .i32 r] w fun e w' => e = .returned (.bool true) ∧ Below w.heap.size w w' := by
  obtain ⟨i0, hi, hz0, hz1, hz2⟩ := info_parts info26
  have HN := Lib.hid hn
  have HM := Lib.hid hm
  have HV := Lib.hid hV
  have HL := Lib.hid hL
  have HS := Lib.hid hS
  have HWF := Lib.hid hwf
  have HWZ := Lib.hid hwz
  obtain ⟨b00, b01⟩ := b0
  clear hV hL hS hn hm hwf hwz
  go_enter Tryd.func9, Tryd.ntmps9
  go_wp2
  go_loopw [20] (fun j wr => ∃ k : Nat, k ≤ len ∧ j = .int .i64 k ∧ (∀ i, i < k → validB (listAt LL i) = true) ∧ Below w.heap.size w wr) (fun j _ => len - (intOf j).toNat)
  case atStart => exact ⟨0, Nat.zero_le _, rfl, fun i hi => absurd hi (by omega), Below.refl _ _⟩
  case round =>
    obtain ⟨k, hk, rfl, hok, hbl⟩ := hrel
    have hsz := hbl.size
    by_cases hlt : k < len
    · obtain ⟨b, off, Ai, ci, rfl, hb, hc, hr⟩ := (HL.out.below hbl (Nat.le_refl _)).at_ (k := k) (by rw [HN.out]; exact hlt)
      obtain ⟨hu, h20⟩ := HWF.out _ (listAt_mem (LL := LL) (i := k) (by rw [HN.out]; exact hlt))
      have cR := Lib.hid (ranges_any (listAt LL k) Ai ci wr hr (by omega))
      have cV := Lib.hid (fun A1 cap1 (w1 : World) (h1 : RowsAt w1 A1 (listAt LL k)) => valid_any (listAt LL k) A1 cap1 w1 h1 hu (by omega))
      have HSTEP : Hid (validB (listAt LL k) = true → ∀ j, j < k + 1 → validB (listAt LL j) = true) := fun h j hj => by
        rcases Nat.lt_or_ge j k with h' | h'
        · exact hok j h'
        · obtain rfl : j = k := by omega
          exact h
      have HB := Lib.hid hbl
      clear hok hr hu hbl
      generalize validB (listAt LL k) = vb at *
      generalize hlk : (listAt LL k).length = lk at *
      clear hlk
      go_wp2_with fail
      refine (cR.out).mono ?_
      rintro e w1 ⟨A1, cap1, rfl, h1, hb1⟩
      have H1 := Lib.hid h1
      have HB1 := Lib.hid (HB.out.trans (hb1.mono hsz))
      clear h1 hb1
      go_wp2_with fail
      refine (cV.out _ _ _ H1.out).mono ?_
      rintro e w2 ⟨rfl, hb2⟩
      have HB2 := Lib.hid (HB1.out.trans (hb2.mono HB1.out.size))
      clear hb2
      cases vb
      · clear HSTEP
        go_wp2_with fail
        go_ret
        exact ⟨rfl, HB2.out⟩
      · have HV' := Lib.hid (HSTEP.out rfl)
        clear HSTEP
        go_wp2_with fail
        go_roundw
        case rel => exact ⟨k + 1, by omega, by go_num, HV'.out, HB2.out⟩
        case measure => simp [intOf]; omega
    · have HVA := Lib.hid (listAt_all (LL := LL) (fun j hj => hok j (by rw [HN.out] at hj; omega)))
      have HB := Lib.hid hbl
      clear hok hbl
      obtain rfl : k = len := by omega
      rcases Int.lt_or_le lo 0 with h1 | h1
      · go_wp2
        go_ret
        exact ⟨rfl, HB.out⟩
      rcases Int.lt_or_le n 0 with h2 | h2
      · go_wp2
        go_ret
        exact ⟨rfl, HB.out⟩
      rcases Int.lt_or_le 65536 n with h3 | h3
      · go_wp2
        go_ret
        exact ⟨rfl, HB.out⟩
      rcases Int.lt_or_le 1114112 (lo + n) with h4 | h4
      · go_wp2
        go_ret
        exact ⟨rfl, HB.out⟩
      obtain ⟨lo, rfl⟩ := Int.eq_ofNat_of_zero_le h1
      obtain ⟨n, rfl⟩ := Int.eq_ofNat_of_zero_le h2
      have c1 : decide ((lo : Int) < 0) = false := by simp
      have c2 : decide ((n : Int) < 0) = false := by simp
      have c3 : decide ((65536 : Int) < (n : Int)) = false := by simp; omega
      have c4 : decide ((1114112 : Int) < (lo : Int) + (n : Int)) = false := by simp; omega
      go_wp2
      obtain ⟨wo, rfl⟩ : ∃ wo : World, wo = wr := ⟨_, rfl⟩
      go_loopw [13, 14] (fun v j wr => ∃ k : Nat, k ≤ n ∧ j = .int .i32 ((lo : Int) + k) ∧ wr.ownsRow w.heap.size 26 5 v k (cellsOf (single (runX lo) (thD LL zs lo) k)) ∧ Below w.heap.size w wr) (fun _ j _ => lo + n - (intOf j).toNat)
      case atStart => exact ⟨0, Nat.zero_le _, by simp, World.ownsRow_nil _ _ _ _, HB.out⟩
      case round =>
        obtain ⟨k2, hk2, rfl, hown, hbl⟩ := hrel
        clear HB
        have hsz2 := hbl.size
        by_cases hlt2 : k2 < n
        · have cT := Lib.hid (through_any LL zs A Z k lenz cap capz ((lo : Int) + k2) wr (HV.out.below hbl (Nat.le_refl _)) (HL.out.below hbl (Nat.le_refl _)) HN.out HVA.out (HS.out.below hbl (Nat.le_refl _)) HM.out HWZ.out hl9 hm9)
          have s0 := thr_code HVA.out zs (r := (lo : Int) + k2) (by omega) (by omega)
          have HC := Lib.hid (tab_cells LL zs lo k2)
          generalize thr LL zs ((lo : Int) + k2) = t0 at *
          obtain ⟨s00, s01⟩ := s0
          have HO := Lib.hid hown
          have HB := Lib.hid hbl
          clear hown hbl
          go_wp2_with fail
          refine (cT.out).mono ?_
          rintro e w3 ⟨rfl, hb3⟩
          have hown3 : w3.ownsRow w.heap.size 26 5 u13 k2 (cellsOf (single (runX lo) (thD LL zs lo) k2)) := HO.out.kept (row := none) ⟨hb3.os, hb3.tape, hb3.output, hb3.size, fun i hi _ => hb3.block i hi⟩ (by cases h : u13.ownBlock <;> simp)
          have hbl3 : Below w.heap.size w w3 := HB.out.trans (hb3.mono hsz2)
          have hs3 : w.heap.size ≤ w3.heap.size := hbl3.size
          clear hb3
          go_wp2_with (at_builtin; refine wpList_append_own _ rfl _ _ 27 rfl w.heap.size 26 i0 _ 5 20 Tryd.underlying27 hi hz0 hz1 hz2 rfl (by decide) _ _ _ rfl (hown3.alloc _) ⟨w3.heap.size, 0, none⟩ 1 1 [.int .u32 ((lo : Int) + k2), .int .u32 ((lo : Int) + k2), .int .i32 (t0 - ((lo : Int) + k2)), .int .i32 (t0 - ((lo : Int) + k2)), .int .i32 (t0 - ((lo : Int) + k2))] rfl rfl ?c1 ?c2 ?c3 ?c4 ?c5 ?_)
          case c1 => exact new_list w3 _ 26
          case c2 => rw [← HC.out]; exact rowCells_one _
          case c3 => unfold maxLen; omega
          case c4 => omega
          case c5 => simp; omega
          intro v' w4 hown' hgrow _
          have hrel : w4.ownsRow w.heap.size 26 5 v' (k2 + 1) (cellsOf (single (runX lo) (thD LL zs lo) (k2 + 1))) := by
            rw [single_succ, cellsOf_snoc, HC.out]; exact hown'
          have hbl1 : Below w.heap.size w w4 := (hbl3.alloc hs3 _).grown hgrow (by simp; omega) (fun g hg => (hown3.lt g hg).1)
          have HO4 := Lib.hid hrel
          have HB4 := Lib.hid hbl1
          clear hown' hgrow hown3 hbl3 hrel hbl1
          go_wp2
          go_roundw
          case rel => exact ⟨k2 + 1, by omega, by go_num, HO4.out, HB4.out⟩
          case measure => simp [intOf]; omega
        · obtain rfl : k2 = n := by omega
          obtain ⟨-, Aa, capa, hv, hrows, -⟩ := own_rows hown
          subst hv
          have HMR := Lib.hid hrows
          have HBL := Lib.hid hbl
          clear hown hrows hbl
          go_wp2
          obtain ⟨wo2, rfl⟩ : ∃ wo2 : World, wo2 = wr := ⟨_, rfl⟩
          go_loopw [73] (fun j wr => ∃ c : Nat, c ≤ 3 ∧ j = .int .i64 c ∧ RowsAt wr Aa (single (runX lo) (thD LL zs lo) k2) ∧ Below w.heap.size w wr) (fun j _ => 3 - (intOf j).toNat)
          case atStart => exact ⟨0, Nat.zero_le _, rfl, HMR.out, HBL.out⟩
          case round =>
            obtain ⟨c, hc, rfl, hM, hbl⟩ := hrel
            clear HMR HBL
            have hsr := hbl.size
            have HREL : Hid (∀ w1, Below wr.heap.size wr w1 → RowsAt w1 Aa (single (runX lo) (thD LL zs lo) k2) ∧ Below w.heap.size w w1) := fun w1 hb1 =>
              ⟨hM.below hb1 (Nat.le_refl _), hbl.trans (hb1.mono hsr)⟩
            by_cases hcl : c < 3
            · have hVr := HV.out.below hbl (Nat.le_refl _)
              have cS := Lib.hid (standard_any (c : Int) r (by omega) (by omega) wr hVr)
              have cT := Lib.hid (fun (w1 : World) (hb1 : Below wr.heap.size wr w1) => through_any LL zs A Z k lenz cap capz r w1 (hVr.below hb1 (Nat.le_refl _)) ((HL.out.below hbl (Nat.le_refl _)).below hb1 (Nat.le_refl _)) HN.out HVA.out ((HS.out.below hbl (Nat.le_refl _)).below hb1 (Nat.le_refl _)) HM.out HWZ.out hl9 hm9)
              have cA := Lib.hid (fun (w1 : World) (hb1 : Below wr.heap.size wr w1) => ask_any (c : Int) r (by omega) (by omega) (single (runX lo) (thD LL zs lo) k2) Aa capa w1 (hVr.below hb1 (Nat.le_refl _)) (hM.below hb1 (Nat.le_refl _)) (tab_rune (by omega)) (by rw [single_length]; omega))
              simp only [Int.toNat_natCast, single_length] at cA cS
              rcases Int.lt_or_le r lo with r1 | r1
              · rw [tab_miss (.inl r1)] at cA
                generalize std c r = ans at *
                clear hM hbl hVr cT
                go_wp2_with fail
                refine (cS.out).mono ?_
                rintro e w1 ⟨rfl, q, rfl⟩
                have HB1 := Lib.hid (below_drewN (Below.refl wr.heap.size wr) q)
                go_wp2_with fail
                refine (cA.out _ HB1.out).mono ?_
                rintro e w3 ⟨rfl, hb3⟩
                have HB3 := Lib.hid (HB1.out.trans (hb3.mono HB1.out.size))
                clear hb3
                go_wp2_with fail
                go_roundw
                case rel => exact ⟨c + 1, by omega, by go_num, HREL.out _ HB3.out⟩
                case measure => simp [intOf]; omega
              rcases Int.lt_or_le r ((lo : Int) + k2) with r2 | r2
              · rw [tab_hit HVA.out (by omega) r1 r2] at cA
                generalize std c r = ans at *
                generalize thr LL zs r = want at *
                clear hM hbl hVr
                go_wp2_with fail
                refine (cS.out).mono ?_
                rintro e w1 ⟨rfl, q, rfl⟩
                have HB1 := Lib.hid (below_drewN (Below.refl wr.heap.size wr) q)
                go_wp2_with fail
                refine (cT.out _ HB1.out).mono ?_
                rintro e w2 ⟨rfl, hb2⟩
                have HB2 := Lib.hid (HB1.out.trans (hb2.mono HB1.out.size))
                clear hb2
                go_wp2_with fail
                refine (cA.out _ HB2.out).mono ?_
                rintro e w3 ⟨rfl, hb3⟩
                have HB3 := Lib.hid (HB2.out.trans (hb3.mono HB2.out.size))
                clear hb3
                go_wp2_with fail
                go_roundw
                case rel => exact ⟨c + 1, by omega, by go_num, HREL.out _ HB3.out⟩
                case measure => simp [intOf]; omega
              · rw [tab_miss (.inr r2)] at cA
                generalize std c r = ans at *
                clear hM hbl hVr cT
                go_wp2_with fail
                refine (cS.out).mono ?_
                rintro e w1 ⟨rfl, q, rfl⟩
                have HB1 := Lib.hid (below_drewN (Below.refl wr.heap.size wr) q)
                go_wp2_with fail
                refine (cA.out _ HB1.out).mono ?_
                rintro e w3 ⟨rfl, hb3⟩
                have HB3 := Lib.hid (HB1.out.trans (hb3.mono HB1.out.size))
                clear hb3
                go_wp2_with fail
                go_roundw
                case rel => exact ⟨c + 1, by omega, by go_num, HREL.out _ HB3.out⟩
                case measure => simp [intOf]; omega
            · obtain rfl : c = 3 := by omega
              have hb7 : Below wr.heap.size wr (wr.alloc (.cells #[.int .u32 0, .int .u32 0, .int .i32 1, .int .i32 1, .int .i32 1] 26)) := (Below.refl _ _).alloc (Nat.le_refl _) _
              have cF := Lib.hid (implUpper_any 0 one1 (some ⟨wr.heap.size, 0, none⟩) 1 _ ((HV.out.below hbl (Nat.le_refl _)).below hb7 (Nat.le_refl _)) (rows_new wr one1 26 #[.int .u32 0, .int .u32 0, .int .i32 1, .int .i32 1, .int .i32 1] rfl) one1_ok (by simp [one1]))
              rw [one1_ask] at cF
              have HB7 := Lib.hid (hbl.trans (hb7.mono hsr))
              clear hb7 hM hbl
              rw [show ((3 : Nat) : Int) = 3 from rfl]
              go_wp2_with fail
              refine (cF.out).mono ?_
              rintro e w8 ⟨rfl, hb8⟩
              have HB8 := Lib.hid (HB7.out.trans (hb8.mono HB7.out.size))
              clear hb8
              go_wp2_with fail
              go_ret
              exact ⟨rfl, HB8.out⟩
end Go.Proofs.YtdabmoekhobgiaaDoor
