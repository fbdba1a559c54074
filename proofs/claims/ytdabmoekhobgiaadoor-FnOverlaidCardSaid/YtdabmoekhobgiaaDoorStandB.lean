/-
  The walk of laws.FnStandardAsList: it returns true for every input. Conditions: unicode.CaseRanges holds the library's table.
-/
import Derived.Test.YtdabmoekhobgiaaDoorManyB
namespace Go.Proofs.YtdabmoekhobgiaaDoor
open Go.RowKit

theorem new_list' (w : World) (cs : Array Value) (t : TypeId) {n : Nat} (hn : n = w.heap.size) : ∀ j u, cs.toList[j]? = some u → (w.alloc (.cells cs t)).cell? ((⟨n, 0, none⟩ : Addr).add j) = some u := by
  subst hn
  exact new_list w cs t

def runX (lo : Nat) (j : Nat) : Nat := lo + j
def stdD (lo : Nat) (j : Nat) : Int × Int × Int := (std 0 ((lo : Int) + j) - ((lo : Int) + j), std 1 ((lo : Int) + j) - ((lo : Int) + j), std 2 ((lo : Int) + j) - ((lo : Int) + j))
theorem stdD_dlt (lo j : Nat) {c : Nat} (hc : c < 3) : dlt (runX lo j, runX lo j, stdD lo j) c = std c ((lo : Int) + j) - ((lo : Int) + j) := by
  match c, hc with
  | 0, _ => rfl
  | 1, _ => rfl
  | 2, _ => rfl
theorem stand_rune {lo n : Nat} (h : lo + n ≤ 1114112) : RuneOk (single (runX lo) (stdD lo) n) := single_rune fun i hi => by unfold runX; omega
/-- THE PLAIN LAW: the list maps every number as the standard does. -/
theorem stand_ask {lo n : Nat} (h : lo + n ≤ 1114112) {c : Nat} (hc : c < 3) (r : Int) : askM (single (runX lo) (stdD lo) n) c r = std c r := by
  by_cases hr : (lo : Int) ≤ r ∧ r < lo + n
  · obtain ⟨j, hj⟩ := Int.eq_ofNat_of_zero_le (show 0 ≤ r - lo by omega)
    have e : r = ((runX lo j : Nat) : Int) := by unfold runX; omega
    have e' : (lo : Int) + j = r := by omega
    have hs := std_code hc (r := r) (by omega) (by omega)
    rw [e]
    refine single_ask (fun a b hab _ => by unfold runX; omega) (show j < n by omega) ?_ ?_ ?_ ?_
    · rw [stdD_dlt _ _ hc, e']; omega
    · rw [stdD_dlt _ _ hc, e', ← e]; omega
    · rw [← e]; omega
    · rw [← e]; omega
  · exact single_out (fun j hj he => hr (by unfold runX at he; omega)) c
theorem stand_cells (lo k : Nat) : rowCells (runX lo k, runX lo k, stdD lo k) = [.int .u32 ((lo : Int) + k), .int .u32 ((lo : Int) + k), .int .i32 (std 0 ((lo : Int) + k) - ((lo : Int) + k)), .int .i32 (std 1 ((lo : Int) + k) - ((lo : Int) + k)), .int .i32 (std 2 ((lo : Int) + k) - ((lo : Int) + k))] := by
  have e : ((runX lo k : Nat) : Int) = (lo : Int) + k := by unfold runX; simp
  unfold rowCells stdD
  dsimp only
  rw [e]

set_option maxHeartbeats 8000000 in
/-- The ways on which the law says nothing. -/
theorem stand_out (lo n r : Int) (w : World) (h : lo < 0 ∨ (0 ≤ lo ∧ n < 0) ∨ (0 ≤ lo ∧ 0 ≤ n ∧ 65536 < n) ∨ (0 ≤ lo ∧ lo ≤ 2147483647 ∧ 0 ≤ n ∧ n ≤ 65536 ∧ 1114112 < lo + n)) :
    Calls Tryd.prog 8 #[.int .i32 lo, .int .i64 n, .int .i32 r] w fun e w' => e = .returned (.bool true) ∧ Below w.heap.size w w' := by
  rcases h with h | ⟨h1, h2⟩ | ⟨h1, h2, h3⟩ | ⟨h1, h2, h3, h4, h5⟩
  all_goals
    go_enter Tryd.func8, Tryd.ntmps8
    go_wp2
    go_ret
    exact ⟨rfl, Below.refl _ _⟩

set_option maxHeartbeats 4000000 in
set_option maxRecDepth 1000000 in
theorem stand_in (lo n : Nat) (r : Int) (w : World) (hV : CaseV w) (h1 : n ≤ 65536) (h2 : lo + n ≤ 1114112) :
    Calls Tryd.prog 8 #[.int .i32 lo, .int .i64 n, .int .i32 r] w fun e w' => e = .returned (.bool true) ∧ Below w.heap.size w w' := by
  obtain ⟨i0, hi, hz0, hz1, hz2⟩ := info_parts info26
  have HV := Lib.hid hV
  clear hV
  have b1 : decide ((lo : Int) < 0) = false := by simp
  have b2 : decide ((n : Int) < 0) = false := by simp
  have b3 : decide ((65536 : Int) < (n : Int)) = false := by simp; omega
  have b4 : decide ((1114112 : Int) < (lo : Int) + (n : Int)) = false := by simp; omega
  go_enter Tryd.func8, Tryd.ntmps8
  go_wp2
  go_loopw [7, 8] (fun v j wr => ∃ k : Nat, k ≤ n ∧ j = .int .i32 ((lo : Int) + k) ∧ wr.ownsRow w.heap.size 26 5 v k (cellsOf (single (runX lo) (stdD lo) k)) ∧ Below w.heap.size w wr) (fun _ j _ => lo + n - (intOf j).toNat)
  case atStart => exact ⟨0, Nat.zero_le _, by simp, World.ownsRow_nil _ _ _ _, Below.refl _ _⟩
  case round =>
    obtain ⟨k, hk, rfl, hown, hbl⟩ := hrel
    by_cases hlt : k < n
    · have hVr := HV.out.below hbl (Nat.le_refl _)
      have cU := Lib.hid (implToUpper_any ((lo : Int) + k) wr hVr)
      have cL := Lib.hid (fun q => implToLower_any ((lo : Int) + k) (wr.drewN q) (hVr.drewN q))
      have cT := Lib.hid (fun q => implToTitle_any ((lo : Int) + k) (wr.drewN q) (hVr.drewN q))
      have s0 := std_code (c := 0) (by omega) (r := (lo : Int) + k) (by omega) (by omega)
      have s1 := std_code (c := 1) (by omega) (r := (lo : Int) + k) (by omega) (by omega)
      have s2 := std_code (c := 2) (by omega) (r := (lo : Int) + k) (by omega) (by omega)
      have HC := Lib.hid (stand_cells lo k)
      generalize std 0 ((lo : Int) + k) = t0 at *
      generalize std 1 ((lo : Int) + k) = t1 at *
      generalize std 2 ((lo : Int) + k) = t2 at *
      obtain ⟨s00, s01⟩ := s0
      obtain ⟨s10, s11⟩ := s1
      obtain ⟨s20, s21⟩ := s2
      have hsz := hbl.size
      have HO := Lib.hid hown
      have HB := Lib.hid hbl
      clear hVr hown hbl
      go_wp2_with fail
      refine (cU.out).mono ?_
      rintro e w1 ⟨rfl, q, rfl⟩
      go_wp2_with fail
      refine (cL.out q).mono ?_
      rintro e w1 ⟨rfl, q', rfl⟩
      rw [World.drewN_drewN]
      go_wp2_with fail
      refine (cT.out (q + q')).mono ?_
      rintro e w1 ⟨rfl, q'', rfl⟩
      rw [World.drewN_drewN]
      generalize q + q' + q'' = qq
      have hown3 : (wr.drewN qq).ownsRow w.heap.size 26 5 u7 k (cellsOf (single (runX lo) (stdD lo) k)) := HO.out
      have hbl3 : Below w.heap.size w (wr.drewN qq) := below_drewN HB.out qq
      have hs3 : w.heap.size ≤ (wr.drewN qq).heap.size := hsz
      generalize wr.drewN qq = w3 at *
      go_wp2_with (at_builtin; refine wpList_append_own _ rfl _ _ 27 rfl w.heap.size 26 i0 _ 5 20 Tryd.underlying27 hi hz0 hz1 hz2 rfl (by decide) _ _ _ rfl ((hown3.alloc _).alloc _) ⟨w3.heap.size + 1, 0, none⟩ 1 1 [.int .u32 ((lo : Int) + k), .int .u32 ((lo : Int) + k), .int .i32 (t0 - ((lo : Int) + k)), .int .i32 (t1 - ((lo : Int) + k)), .int .i32 (t2 - ((lo : Int) + k))] rfl rfl ?c1 ?c2 ?c3 ?c4 ?c5 ?_)
      case c1 => exact new_list' (w3.alloc _) _ 26 (by simp)
      case c2 => rw [← HC.out]; exact rowCells_one _
      case c3 => unfold maxLen; omega
      case c4 => omega
      case c5 => simp; omega
      intro v' w4 hown' hgrow _
      have hrel : w4.ownsRow w.heap.size 26 5 v' (k + 1) (cellsOf (single (runX lo) (stdD lo) (k + 1))) := by
        rw [single_succ, cellsOf_snoc, HC.out]; exact hown'
      have hbl1 : Below w.heap.size w w4 := ((hbl3.alloc hs3 _).alloc (by simp; omega) _).grown hgrow (by simp; omega) (fun g hg => (hown3.lt g hg).1)
      have HO4 := Lib.hid hrel
      have HB4 := Lib.hid hbl1
      clear hown' hgrow hown3 hbl3 hrel hbl1
      go_wp2
      go_roundw
      case rel => exact ⟨k + 1, by omega, by go_num, HO4.out, HB4.out⟩
      case measure => simp [intOf]; omega
    · obtain rfl : k = n := by omega
      obtain ⟨-, Aa, capa, hv, hrows, -⟩ := own_rows hown
      subst hv
      have HM := Lib.hid hrows
      have HBL := Lib.hid hbl
      clear hown hrows hbl
      go_wp2
      obtain ⟨wo, rfl⟩ : ∃ wo : World, wo = wr := ⟨_, rfl⟩
      go_loopw [59] (fun j wr => ∃ c : Nat, c ≤ 3 ∧ j = .int .i64 c ∧ RowsAt wr Aa (single (runX lo) (stdD lo) k) ∧ Below w.heap.size w wr) (fun j _ => 3 - (intOf j).toNat)
      case atStart => exact ⟨0, Nat.zero_le _, rfl, HM.out, HBL.out⟩
      case round =>
        obtain ⟨c, hc, rfl, hM, hbl⟩ := hrel
        clear HM HBL
        have hsr := hbl.size
        have HREL : Hid (∀ w1, Below wr.heap.size wr w1 → RowsAt w1 Aa (single (runX lo) (stdD lo) k) ∧ Below w.heap.size w w1) := fun w1 hb1 =>
          ⟨hM.below hb1 (Nat.le_refl _), hbl.trans (hb1.mono hsr)⟩
        by_cases hcl : c < 3
        · have hVr := HV.out.below hbl (Nat.le_refl _)
          have cA := Lib.hid (ask_any (c : Int) r (by omega) (by omega) (single (runX lo) (stdD lo) k) Aa capa wr hVr hM (stand_rune h2) (by rw [single_length]; omega))
          have cS := Lib.hid (fun (w1 : World) (hb1 : Below wr.heap.size wr w1) => standard_any (c : Int) r (by omega) (by omega) w1 (hVr.below hb1 (Nat.le_refl _)))
          simp only [Int.toNat_natCast, single_length] at cA cS
          rw [stand_ask h2 hcl] at cA
          generalize std c r = ans at *
          clear hM hbl hVr
          go_wp2_with fail
          refine (cA.out).mono ?_
          rintro e w1 ⟨rfl, hb1⟩
          have HB1 := Lib.hid hb1
          clear hb1
          go_wp2_with fail
          refine (cS.out w1 HB1.out).mono ?_
          rintro e w3 ⟨rfl, q, rfl⟩
          have HB3 := Lib.hid (below_drewN HB1.out q)
          go_wp2_with fail
          go_roundw
          case rel => exact ⟨c + 1, by omega, by go_num, HREL.out _ HB3.out⟩
          case measure => simp [intOf]; omega
        · obtain rfl : c = 3 := by omega
          have hb7 : Below wr.heap.size wr (wr.alloc (.cells #[.int .u32 0, .int .u32 0, .int .i32 1, .int .i32 1, .int .i32 1] 26)) := (Below.refl _ _).alloc (Nat.le_refl _) _
          have cF := Lib.hid (implUpper_any 0 one1 (some ⟨wr.heap.size, 0, none⟩) 1 _ ((HV.out.below hbl (Nat.le_refl _)).below hb7 (Nat.le_refl _)) (rows_new wr one1 26 #[.int .u32 0, .int .u32 0, .int .i32 1, .int .i32 1, .int .i32 1] rfl) one1_ok (by simp [one1]))
          rw [one1_ask] at cF
          have HB7 := Lib.hid (hbl.trans (hb7.mono hsr))
          clear hb7 hM hbl
          rw [show ((3 : Nat) : Int) = 3 from rfl]
          go_wp2_with fail
          refine (cF.out).mono ?_
          rintro e w8 ⟨rfl, hb8⟩
          have HB8 := Lib.hid (HB7.out.trans (hb8.mono HB7.out.size))
          clear hb8
          go_wp2_with fail
          go_ret
          exact ⟨rfl, HB8.out⟩

namespace fnStandardAsList
theorem law (lo n r : Int) (w : World) (hV : CaseV w) (b0 : -2147483648 ≤ lo ∧ lo ≤ 2147483647) (_ : -9223372036854775808 ≤ n ∧ n ≤ 9223372036854775807) (_ : -2147483648 ≤ r ∧ r ≤ 2147483647) :
    Calls Tryd.prog 8 #[.int .i32 lo, .int .i64 n, .int .i32 r] w fun e w' => e = .returned (.bool true) ∧ Below w.heap.size w w' := by
  rcases Int.lt_or_le lo 0 with h1 | h1
  · exact stand_out lo n r w (.inl h1)
  rcases Int.lt_or_le n 0 with h2 | h2
  · exact stand_out lo n r w (.inr (.inl ⟨h1, h2⟩))
  rcases Int.lt_or_le 65536 n with h3 | h3
  · exact stand_out lo n r w (.inr (.inr (.inl ⟨h1, h2, h3⟩)))
  rcases Int.lt_or_le 1114112 (lo + n) with h4 | h4
  · exact stand_out lo n r w (.inr (.inr (.inr ⟨h1, b0.2, h2, h3, h4⟩)))
  obtain ⟨lo', rfl⟩ := Int.eq_ofNat_of_zero_le h1
  obtain ⟨n', rfl⟩ := Int.eq_ofNat_of_zero_le h2
  exact stand_in lo' n' r w hV (by omega) (by omega)
end fnStandardAsList
end Go.Proofs.YtdabmoekhobgiaaDoor
