/-
  Lists of lists in memory; scripts of steps over valid lists; the contract of laws.through. Conditions: the lists lie in memory and are valid; the steps lie in memory; unicode.CaseRanges holds the library's table.
-/
import Derived.Test.YtdabmoekhobgiaaDoorMovedA
namespace Go.Proofs.YtdabmoekhobgiaaDoor
open Go.RowKit

def listAt (LL : List (List Rw)) (i : Nat) : List Rw := LL.getD i []
theorem listAt_mem {LL : List (List Rw)} {i : Nat} (h : i < LL.length) : listAt LL i ∈ LL := by
  unfold listAt
  rw [List.getD_eq_getElem?_getD, List.getElem?_eq_getElem h]
  exact List.getElem_mem h
/-- A slice of lists in memory. -/
def ListsAt (w : World) (A : Option Addr) (LL : List (List Rw)) : Prop :=
  LL = [] ∨ ∃ b off, A = some ⟨b, off, none⟩ ∧ b < w.heap.size ∧ ∀ i, i < LL.length → ∃ Ai ci, w.cell? ⟨b, off + i, none⟩ = some (.slice Ai (listAt LL i).length ci) ∧ RowsAt w Ai (listAt LL i)
theorem ListsAt.below {w w' : World} {A : Option Addr} {LL : List (List Rw)} (h : ListsAt w A LL) {B : Nat} (hb : Below B w w') (hB : w.heap.size ≤ B) : ListsAt w' A LL := by
  rcases h with h | ⟨b, off, hA, hlt, hT⟩
  · exact .inl h
  · refine .inr ⟨b, off, hA, Nat.lt_of_lt_of_le hlt hb.size, fun i hi => ?_⟩
    obtain ⟨Ai, ci, hc, hr⟩ := hT i hi
    exact ⟨Ai, ci, (hb.cell (p := ⟨b, off + i, none⟩) (Nat.lt_of_lt_of_le hlt hB)).trans hc, hr.below hb hB⟩
theorem ListsAt.at_ {w : World} {A : Option Addr} {LL : List (List Rw)} (h : ListsAt w A LL) {k : Nat} (hk : k < LL.length) : ∃ b off Ai ci, A = some ⟨b, off, none⟩ ∧ b < w.heap.size ∧ w.cell? ⟨b, off + k, none⟩ = some (.slice Ai (listAt LL k).length ci) ∧ RowsAt w Ai (listAt LL k) := by
  rcases h with rfl | ⟨b, off, hA, hb, hT⟩
  · simp at hk
  · obtain ⟨Ai, ci, hc, hr⟩ := hT k hk
    exact ⟨b, off, Ai, ci, hA, hb, hc, hr⟩

/-- One step of a script. -/
def stepM (LL : List (List Rw)) (s r : Int) : Int :=
  if 3 ≤ s % 6 ∨ LL.length = 0 then std ((s % 6) % 3).toNat r else askM (listAt LL ((s.tdiv 6) % (LL.length : Int)).toNat) (s % 6).toNat r
def thr (LL : List (List Rw)) (zs : List Int) (r : Int) : Int := zs.foldl (fun r s => stepM LL s r) r
theorem thr_snoc (LL : List (List Rw)) (zs : List Int) (k : Nat) (hk : k < zs.length) (r : Int) : thr LL (zs.take (k + 1)) r = stepM LL (zs.getD k 0) (thr LL (zs.take k) r) := by
  unfold thr
  rw [List.take_succ_eq_append_getElem hk, List.foldl_append, List.getD_eq_getElem?_getD, List.getElem?_eq_getElem hk]
  rfl

/-- A valid list leads code points to code points. -/
theorem valid_code {L : List Rw} (hv : validB L = true) {c : Nat} (hc : c < 3) {r : Int} (h0 : 0 ≤ r) (h1 : r ≤ 1114111) : 0 ≤ askM L c r ∧ askM L c r ≤ 1114111 := by
  by_cases h : ∃ i, i < L.length ∧ hasR (rowAt L i) r
  · obtain ⟨i, hi, hr⟩ := h
    exact (valid_ask hv hi hr c).2
  · rw [askM_out (fun i hi hr => h ⟨i, hi, hr⟩)]
    exact std_code hc h0 h1
theorem step_code {LL : List (List Rw)} (hv : ∀ L ∈ LL, validB L = true) (s : Int) {r : Int} (h0 : 0 ≤ r) (h1 : r ≤ 1114111) : 0 ≤ stepM LL s r ∧ stepM LL s r ≤ 1114111 := by
  unfold stepM
  split
  · exact std_code (by omega) h0 h1
  · rename_i h
    have hpos : 0 < (LL.length : Int) := by omega
    have e1 := Int.emod_nonneg (s.tdiv 6) (show (LL.length : Int) ≠ 0 by omega)
    have e2 := Int.emod_lt_of_pos (s.tdiv 6) hpos
    exact valid_code (hv _ (listAt_mem (by omega))) (by omega) h0 h1
theorem thr_code {LL : List (List Rw)} (hv : ∀ L ∈ LL, validB L = true) : ∀ (zs : List Int) {r : Int}, 0 ≤ r → r ≤ 1114111 → 0 ≤ thr LL zs r ∧ thr LL zs r ≤ 1114111
  | [], _, h0, h1 => ⟨h0, h1⟩
  | s :: zs, r, h0, h1 => by
    have h := step_code hv s h0 h1
    exact thr_code hv zs h.1 h.2

theorem wrap_tdiv {s : Int} (h : -9223372036854775808 ≤ s ∧ s ≤ 9223372036854775807) : wrap64 (s.tdiv 6) = s.tdiv 6 := by
  have : -9223372036854775808 ≤ s.tdiv 6 ∧ s.tdiv 6 ≤ 9223372036854775807 := by
    have h1 := Int.mul_tdiv_add_tmod s 6
    have h2 := Int.lt_tmod_of_pos s (show (0 : Int) < 6 by omega)
    have h3 := Int.tmod_lt_of_pos s (show (0 : Int) < 6 by omega)
    omega
  exact IntWalk.wrap64_in _ this
theorem getD_wf {zs : List Int} (h : ∀ z ∈ zs, -9223372036854775808 ≤ z ∧ z ≤ 9223372036854775807) (k : Nat) : -9223372036854775808 ≤ zs.getD k 0 ∧ zs.getD k 0 ≤ 9223372036854775807 := by
  rw [List.getD_eq_getElem?_getD]
  cases hk : zs[k]? with
  | none => simp
  | some z => exact h z (List.mem_of_getElem? hk)

set_option maxHeartbeats 2000000 in
set_option maxRecDepth 1000000 in
theorem through_any (LL : List (List Rw)) (zs : List Int) (A Z : Option Addr) (n m cap capz : Nat) (r : Int) (w : World) (hV : CaseV w) (hL : ListsAt w A LL) (hn : LL.length = n) (hv : ∀ L ∈ LL, validB L = true) (hS : IntsAt w Z zs) (hm : zs.length = m) (hwz : ∀ z ∈ zs, -9223372036854775808 ≤ z ∧ z ≤ 9223372036854775807)
    (hn9 : n ≤ 4000000000000000000) (hm9 : m ≤ 9223372036854775807) :
    Calls Tryd.prog 33 #[.slice A n cap, .slice Z m capz, .int .i32 r] w fun e w' => e = .returned (.int .i32 (thr LL zs r)) ∧ Below w.heap.size w w' := by
  have HN := Lib.hid hn
  have HM := Lib.hid hm
  have HV := Lib.hid hV
  have HL := Lib.hid hL
  have HVA := Lib.hid hv
  have HS := Lib.hid hS
  have HWZ := Lib.hid hwz
  clear hV hL hv hS hn hm hwz
  go_enter Tryd.func33, Tryd.ntmps33
  go_wp2
  go_loopw [2, 12] (fun q j wr => ∃ k : Nat, k ≤ m ∧ j = .int .i64 k ∧ q = .int .i32 (thr LL (zs.take k) r) ∧ Below w.heap.size w wr) (fun _ j _ => m - (intOf j).toNat)
  case atStart => exact ⟨0, Nat.zero_le _, rfl, rfl, Below.refl _ _⟩
  case round =>
    obtain ⟨k, hk, rfl, rfl, hbl⟩ := hrel
    by_cases hlt : k < m
    · obtain ⟨b, off, rfl, hb, hc⟩ := (HS.out.below hbl (Nat.le_refl _)).at_ (k := k) (by rw [HM.out]; exact hlt)
      have HT := Lib.hid (thr_snoc LL zs k (by rw [HM.out]; exact hlt) r)
      have HW : Hid (wrap64 ((zs.getD k 0).tdiv 6) = (zs.getD k 0).tdiv 6) := wrap_tdiv (getD_wf HWZ.out k)
      generalize zs.getD k 0 = s at *
      generalize thr LL (zs.take k) r = x at *
      have hVr := HV.out.below hbl (Nat.le_refl _)
      have hLr := HL.out.below hbl (Nat.le_refl _)
      have cP := Lib.hid (pick_any s 6 (by omega) (by omega) wr)
      have hs0 : 0 ≤ s % 6 := by omega
      have hs6 : s % 6 < 6 := by omega
      have hsz := hbl.size
      have HB := Lib.hid hbl
      clear hbl
      unfold stepM at HT
      rw [HN.out] at HT
      generalize hkd : s % 6 = kd at *
      have HKD := Lib.hid hkd
      clear hkd
      by_cases h3 : 3 ≤ kd
      · have hT := HT.out
        rw [if_pos (.inl h3)] at hT
        have cS := Lib.hid (standard_any (kd % 3) x (by omega) (by omega) wr hVr)
        have HT' := Lib.hid hT
        have b3 : decide (3 ≤ kd) = true := by simpa using h3
        clear hT HT hVr hLr
        generalize std (kd % 3).toNat x = ans at *
        go_wp2_with fail
        refine (cP.out).mono ?_
        rintro e w' ⟨rfl, rfl⟩
        go_wp2_with fail
        refine (cS.out).mono ?_
        rintro e w1 ⟨rfl, q, rfl⟩
        go_wp2_with fail
        go_roundw
        case rel => exact ⟨k + 1, by omega, by go_num, by rw [HT'.out], below_drewN HB.out q⟩
        case measure => simp [intOf]; omega
      · have b3 : decide (3 ≤ kd) = false := by simpa using h3
        by_cases h0 : n = 0
        · have hT := HT.out
          rw [if_pos (.inr h0)] at hT
          have cS := Lib.hid (standard_any (kd % 3) x (by omega) (by omega) wr hVr)
          have HT' := Lib.hid hT
          have t0 : ((n : Int) == 0) = true := by simp; omega
          clear hT HT hVr hLr h0
          generalize std (kd % 3).toNat x = ans at *
          go_wp2_with fail
          refine (cP.out).mono ?_
          rintro e w' ⟨rfl, rfl⟩
          go_wp2_with fail
          refine (cS.out).mono ?_
          rintro e w1 ⟨rfl, q, rfl⟩
          go_wp2_with fail
          go_roundw
          case rel => exact ⟨k + 1, by omega, by go_num, by rw [HT'.out], below_drewN HB.out q⟩
          case measure => simp [intOf]; omega
        · have hT := HT.out
          rw [if_neg (by omega)] at hT
          have t0 : ((n : Int) == 0) = false := by simp; omega
          have cP2 := Lib.hid (pick_any (s.tdiv 6) n (by omega) (by omega) wr)
          have e1 := Int.emod_nonneg (s.tdiv 6) (show (n : Int) ≠ 0 by omega)
          have e2 := Int.emod_lt_of_pos (s.tdiv 6) (show 0 < (n : Int) by omega)
          generalize hix : s.tdiv 6 % (n : Int) = ix at *
          have HIX := Lib.hid hix
          clear hix
          obtain ⟨j, rfl⟩ := Int.eq_ofNat_of_zero_le e1
          rw [Int.toNat_natCast] at hT
          obtain ⟨b', off', Ai, ci, rfl, hb', hc', hr'⟩ := hLr.at_ (k := j) (by rw [HN.out]; omega)
          have hvj := HVA.out _ (listAt_mem (LL := LL) (i := j) (by rw [HN.out]; omega))
          have cA := Lib.hid (ask_any kd x hs0 (by omega) (listAt LL j) Ai ci wr hVr hr' (valid_rune hvj) (by have := valid_length hvj; omega))
          have HT' := Lib.hid hT
          clear hT HT hVr hLr h0 hr' hvj
          generalize askM (listAt LL j) kd.toNat x = ans at *
          generalize (listAt LL j).length = lj at *
          go_wp2_with fail
          refine (cP.out).mono ?_
          rintro e w' ⟨rfl, rfl⟩
          go_wp2_with fail
          rw [HW.out]
          refine (cP2.out).mono ?_
          rintro e w' ⟨rfl, rfl⟩
          go_wp2_with fail
          refine (cA.out).mono ?_
          rintro e w1 ⟨rfl, hb1⟩
          have HB1 := Lib.hid (HB.out.trans (hb1.mono hsz))
          clear hb1
          go_wp2_with fail
          go_roundw
          case rel => exact ⟨k + 1, by omega, by go_num, by rw [HT'.out], HB1.out⟩
          case measure => simp [intOf]; omega
    · obtain rfl : k = m := by omega
      have HT := Lib.hid (show zs.take k = zs from List.take_of_length_le (by rw [HM.out]; exact Nat.le_refl _))
      have HB := Lib.hid hbl
      clear hbl
      go_wp2
      go_ret
      exact ⟨by rw [HT.out]; rfl, HB.out⟩
end Go.Proofs.YtdabmoekhobgiaaDoor
