/-
  Contracts of spec.Valid, AnyTurns, At and Mapped. Conditions: the list lies in memory, its bounds fit uint32.
-/
import Derived.Test.YtdabmoekhobgiaaDoorSpecA
import Derived.Outline
namespace Go.Proofs.YtdabmoekhobgiaaDoor
open Go.RowKit

def okRow (x : Rw) : Bool := decide (x.1 ≤ x.2.1) && decide (x.2.1 ≤ 1114111) && (if turnsB x then decide ((x.2.1 - x.1) % 2 = 1) else leadsB x)
def nextB (L : List Rw) (k : Nat) : Bool := decide (k = 0) || decide ((rowAt L (k - 1)).2.1 < (rowAt L k).1)
def okAt (L : List Rw) (k : Nat) : Bool := okRow (rowAt L k) && nextB L k
def validB (L : List Rw) : Bool := (List.range L.length).all (okAt L)
def anyTurnsB (L : List Rw) : Bool := L.any turnsB
def U32Ok (L : List Rw) : Prop := ∀ i, i < L.length → (rowAt L i).1 < 4294967296 ∧ (rowAt L i).2.1 < 4294967296

theorem valid_of {L : List Rw} (h : ∀ j, j < L.length → okAt L j = true) : validB L = true := List.all_eq_true.2 fun j hj => h j (List.mem_range.1 hj)
theorem invalid_of {L : List Rw} {k : Nat} (hk : k < L.length) (h : okAt L k = false) : validB L = false := by
  cases hv : validB L with
  | false => rfl
  | true =>
    have := List.all_eq_true.1 hv k (List.mem_range.2 hk)
    rw [h] at this
    cases this

theorem cell_new (w : World) (cs : Array Value) (t : TypeId) (q i : Nat) : ((w.alloc (.cells cs t)).drewN q).cell? ⟨w.heap.size, i, none⟩ = cs[i]? :=
  cell_of_row (w.alloc (.cells cs t)) w.heap.size i cs t (0, 0) (heap_alloc_new w _)

set_option maxHeartbeats 4000000 in
set_option maxRecDepth 1000000 in
theorem valid_any (L : List Rw) (A : Option Addr) (cap : Nat) (w : World) (hT : RowsAt w A L) (hu : U32Ok L) (hn : L.length ≤ 9223372036854775807) :
    Calls Tryd.prog 21 #[.slice A L.length cap] w fun e w' => e = .returned (.bool (validB L)) ∧ Below w.heap.size w w' := by
  go_enter Tryd.func21, Tryd.ntmps21
  go_wp2
  go_loopw [7] (fun i wr => ∃ k : Nat, k ≤ L.length ∧ i = .int .i64 k ∧ (∀ j, j < k → okAt L j = true) ∧ Below w.heap.size w wr) (fun i _ => L.length - (intOf i).toNat)
  case atStart => exact ⟨0, Nat.zero_le _, rfl, fun j hj => absurd hj (by omega), Below.refl _ _⟩
  case round =>
    obtain ⟨k, hk, rfl, hok, hbl⟩ := hrel
    by_cases hlt : k < L.length
    · obtain ⟨b, off, rfl, hb, hT⟩ : ∃ b off, A = some ⟨b, off, none⟩ ∧ b < w.heap.size ∧ Tab w b off L := by
        rcases hT with rfl | h
        · simp at hlt
        · exact h
      obtain ⟨hc0, hc1, hc2, hc3, hc4⟩ := hT k hlt
      have hcp : 0 < k → w.cell? ⟨b, off + (k - 1) * 5 + 1, none⟩ = some (.int .u32 (rowAt L (k - 1)).2.1) := fun _ => (hT (k - 1) (by omega)).2.1
      obtain ⟨hu0, hu1⟩ := hu k hlt
      have HBAD := Lib.hid (fun (h : okAt L k = false) => invalid_of hlt h)
      have HSTEP : Hid (okAt L k = true → ∀ j, j < k + 1 → okAt L j = true) := fun h j hj => by
        rcases Nat.lt_or_ge j k with h' | h'
        · exact hok j h'
        · obtain rfl : j = k := by omega
          exact h
      clear hok hT hu
      unfold okAt nextB at HBAD HSTEP
      obtain ⟨P, hP⟩ : ∃ P, (rowAt L (k - 1)).2.1 = P := ⟨_, rfl⟩
      obtain ⟨x, hx⟩ : ∃ x, rowAt L k = x := ⟨_, rfl⟩
      rw [hx] at hc0 hc1 hc2 hc3 hc4 hu0 hu1 HBAD
      rw [hP] at hcp HBAD
      have HSTEP' : Hid ((okRow x && (decide (k = 0) || decide (P < x.1))) = true → ∀ j, j < k + 1 → okAt L j = true) := by rw [← hx, ← hP]; exact HSTEP
      clear HSTEP hx hP
      have q0 := (hbl.cell (p := ⟨b, off + k * 5, none⟩) hb).trans hc0
      have q1 := (hbl.cell (p := ⟨b, off + k * 5 + 1, none⟩) hb).trans hc1
      have q2 := (hbl.cell (p := ⟨b, off + k * 5 + 2, none⟩) hb).trans hc2
      have q3 := (hbl.cell (p := ⟨b, off + k * 5 + 3, none⟩) hb).trans hc3
      have q4 := (hbl.cell (p := ⟨b, off + k * 5 + 4, none⟩) hb).trans hc4
      have qp : 0 < k → wr.cell? ⟨b, off + (k - 1) * 5 + 1, none⟩ = some (.int .u32 P) := fun h => (hbl.cell (p := ⟨b, off + (k - 1) * 5 + 1, none⟩) hb).trans (hcp h)
      clear hc0 hc1 hc2 hc3 hc4 hcp
      have cT := Lib.hid (fun w' => turns_any x w')
      have cL := Lib.hid (fun w' => leads_any x w' hu0 hu1)
      have HXX := Lib.hid (rfl : x = x)
      have hsz := hbl.size
      have HB := Lib.hid hbl
      clear hbl
      obtain ⟨lo, hi, d0, d1, d2⟩ := x
      unfold rowAgg at cT cL
      dsimp only at q0 q1 q2 q3 q4 hu0 hu1 cT cL
      by_cases c1 : hi < lo
      · have HV := Lib.hid (HBAD.out (by simp [okRow]; omega))
        have b1 : decide (hi < lo) = true := by simpa using c1
        clear HBAD HSTEP' qp
        go_wp2
        go_quiet (fail)
        go_wp2
        go_ret
        exact ⟨by rw [HV.out]; rfl, below_drewN (HB.out.alloc hsz _) _⟩
      have b1 : decide (hi < lo) = false := by simpa using c1
      by_cases c2 : 1114111 < hi
      · have HV := Lib.hid (HBAD.out (by simp [okRow]; omega))
        have b2 : decide ((1114111 : Int) < (hi : Int)) = true := by simp; omega
        clear HBAD HSTEP' qp
        go_wp2
        go_quiet (fail)
        go_wp2
        go_ret
        exact ⟨by rw [HV.out]; rfl, below_drewN (HB.out.alloc hsz _) _⟩
      have b2 : decide ((1114111 : Int) < (hi : Int)) = false := by simp; omega
      by_cases c3 : 0 < k ∧ lo ≤ P
      · obtain ⟨c3, c4⟩ := c3
        have HV := Lib.hid (HBAD.out (by simp [okRow]; omega))
        have b3 : decide (0 < k) = true := by simpa using c3
        have b4 : decide (lo ≤ P) = true := by simpa using c4
        have qp' : ∀ o, (wr.alloc o).cell? ⟨b, off + (k - 1) * 5 + 1, none⟩ = some (.int .u32 P) := fun o => (World.cell?_alloc_lt wr o ⟨b, _, none⟩ (show b < wr.heap.size by omega)).trans (qp c3)
        have hk1 : (1 : Int) ≤ (k : Int) := by omega
        have hkl : (k : Int) - 1 < (L.length : Int) := by omega
        have s3 : ((k : Int) - 1).toNat = k - 1 := by omega
        have s1 : IntKind.i64.wrap ((k : Int) - 1) = (k : Int) - 1 := IntWalk.i64_in _ (by omega)
        clear HBAD HSTEP' qp
        go_wp2
        go_quiet (fail)
        go_wp2
        go_ret
        exact ⟨by rw [HV.out]; rfl, below_drewN (HB.out.alloc hsz _) _⟩
      have hnx : (decide (k = 0) || decide (P < lo)) = true := by simp; omega
      have HOK := Lib.hid hnx
      clear hnx
      have qp' : 0 < k → ∀ o, (wr.alloc o).cell? ⟨b, off + (k - 1) * 5 + 1, none⟩ = some (.int .u32 P) := fun h o => (World.cell?_alloc_lt wr o ⟨b, _, none⟩ (show b < wr.heap.size by omega)).trans (qp h)
      have c6 : 0 < k → P < lo := fun h => by omega
      clear qp c3
      rcases Nat.eq_zero_or_pos k with hk0 | c4
      · have b3 : decide (0 < k) = false := by simp; omega
        clear qp' c6 hk0
        go_wp2
        go_quiet (fail)
        go_wp2_with fail
        refine (cT.out _).mono ?_
        rintro e w1 ⟨rfl, hb1⟩
        have z0 : w1.cell? ⟨wr.heap.size, 0, none⟩ = some (.int .u32 lo) := (hb1.cell (p := ⟨wr.heap.size, 0, none⟩) (by simp)).trans (cell_new _ _ _ _ 0)
        have z1 : w1.cell? ⟨wr.heap.size, 1, none⟩ = some (.int .u32 hi) := (hb1.cell (p := ⟨wr.heap.size, 1, none⟩) (by simp)).trans (cell_new _ _ _ _ 1)
        have z2 : w1.cell? ⟨wr.heap.size, 2, none⟩ = some (.int .i32 d0) := (hb1.cell (p := ⟨wr.heap.size, 2, none⟩) (by simp)).trans (cell_new _ _ _ _ 2)
        have z3 : w1.cell? ⟨wr.heap.size, 3, none⟩ = some (.int .i32 d1) := (hb1.cell (p := ⟨wr.heap.size, 3, none⟩) (by simp)).trans (cell_new _ _ _ _ 3)
        have z4 : w1.cell? ⟨wr.heap.size, 4, none⟩ = some (.int .i32 d2) := (hb1.cell (p := ⟨wr.heap.size, 4, none⟩) (by simp)).trans (cell_new _ _ _ _ 4)
        have HB1 := Lib.hid ((below_drewN (HB.out.alloc hsz _) _).trans (hb1.mono (show w.heap.size ≤ _ by simp; omega)))
        have hs1 : w.heap.size ≤ w1.heap.size := HB1.out.size
        clear hb1 q0 q1 q2 q3 q4
        have HR : Hid (okRow (lo, hi, d0, d1, d2) = (if turnsB (lo, hi, d0, d1, d2) then decide ((hi - lo) % 2 = 1) else leadsB (lo, hi, d0, d1, d2))) := by
          have e1 : decide (lo ≤ hi) = true := by simpa using c1
          have e2 : decide (hi ≤ 1114111) = true := by simpa using c2
          show okRow (lo, hi, d0, d1, d2) = _
          unfold okRow
          dsimp only
          rw [e1, e2]
          rfl
        generalize turnsB (lo, hi, d0, d1, d2) = tb at *
        cases tb
        · go_wp2_with fail
          refine (cL.out _).mono ?_
          rintro e w2 ⟨rfl, hb2⟩
          have HB2 := Lib.hid (HB1.out.trans (hb2.mono hs1))
          clear hb2
          generalize leadsB (lo, hi, d0, d1, d2) = lb at *
          cases lb
          · have HV := Lib.hid (HBAD.out (by rw [HR.out]; rfl))
            go_wp2_with fail
            go_ret
            exact ⟨by rw [HV.out]; rfl, HB2.out⟩
          · have HV := Lib.hid (HSTEP'.out (by rw [HR.out, HOK.out]; rfl))
            go_wp2_with fail
            go_roundw
            case rel => exact ⟨k + 1, by omega, by go_num, HV.out, HB2.out⟩
            case measure => simp [intOf]; omega
        · by_cases hpar : (hi - lo) % 2 = 1
          · have HV := Lib.hid (HSTEP'.out (by rw [HR.out, HOK.out, if_pos rfl, decide_eq_true hpar]; rfl))
            have t1 : (((hi : Int) - (lo : Int)) % 2 == 0) = false := by simp; omega
            clear hpar
            go_wp2_with fail
            go_roundw
            case rel => exact ⟨k + 1, by omega, by go_num, HV.out, HB1.out⟩
            case measure => simp [intOf]; omega
          · have HV := Lib.hid (HBAD.out (by rw [HR.out, if_pos rfl, decide_eq_false hpar]; rfl))
            have t1 : (((hi : Int) - (lo : Int)) % 2 == 0) = true := by simp; omega
            clear hpar
            go_wp2_with fail
            go_ret
            exact ⟨by rw [HV.out]; rfl, HB1.out⟩
      · have b3 : decide (0 < k) = true := by simpa using c4
        have b4 : decide (lo ≤ P) = false := by have := c6 c4; simp; omega
        have qp'' := qp' c4
        have hk1 : (1 : Int) ≤ (k : Int) := by omega
        have hkl : (k : Int) - 1 < (L.length : Int) := by omega
        have s3 : ((k : Int) - 1).toNat = k - 1 := by omega
        have s1 : IntKind.i64.wrap ((k : Int) - 1) = (k : Int) - 1 := IntWalk.i64_in _ (by omega)
        clear qp' c6
        go_wp2
        go_quiet (fail)
        clear s1 s3
        go_wp2_with fail
        refine (cT.out _).mono ?_
        rintro e w1 ⟨rfl, hb1⟩
        have z0 : w1.cell? ⟨wr.heap.size, 0, none⟩ = some (.int .u32 lo) := (hb1.cell (p := ⟨wr.heap.size, 0, none⟩) (by simp)).trans (cell_new _ _ _ _ 0)
        have z1 : w1.cell? ⟨wr.heap.size, 1, none⟩ = some (.int .u32 hi) := (hb1.cell (p := ⟨wr.heap.size, 1, none⟩) (by simp)).trans (cell_new _ _ _ _ 1)
        have z2 : w1.cell? ⟨wr.heap.size, 2, none⟩ = some (.int .i32 d0) := (hb1.cell (p := ⟨wr.heap.size, 2, none⟩) (by simp)).trans (cell_new _ _ _ _ 2)
        have z3 : w1.cell? ⟨wr.heap.size, 3, none⟩ = some (.int .i32 d1) := (hb1.cell (p := ⟨wr.heap.size, 3, none⟩) (by simp)).trans (cell_new _ _ _ _ 3)
        have z4 : w1.cell? ⟨wr.heap.size, 4, none⟩ = some (.int .i32 d2) := (hb1.cell (p := ⟨wr.heap.size, 4, none⟩) (by simp)).trans (cell_new _ _ _ _ 4)
        have HB1 := Lib.hid ((below_drewN (HB.out.alloc hsz _) _).trans (hb1.mono (show w.heap.size ≤ _ by simp; omega)))
        have hs1 : w.heap.size ≤ w1.heap.size := HB1.out.size
        clear hb1 q0 q1 q2 q3 q4
        have HR : Hid (okRow (lo, hi, d0, d1, d2) = (if turnsB (lo, hi, d0, d1, d2) then decide ((hi - lo) % 2 = 1) else leadsB (lo, hi, d0, d1, d2))) := by
          have e1 : decide (lo ≤ hi) = true := by simpa using c1
          have e2 : decide (hi ≤ 1114111) = true := by simpa using c2
          show okRow (lo, hi, d0, d1, d2) = _
          unfold okRow
          dsimp only
          rw [e1, e2]
          rfl
        generalize turnsB (lo, hi, d0, d1, d2) = tb at *
        cases tb
        · go_wp2_with fail
          refine (cL.out _).mono ?_
          rintro e w2 ⟨rfl, hb2⟩
          have HB2 := Lib.hid (HB1.out.trans (hb2.mono hs1))
          clear hb2
          generalize leadsB (lo, hi, d0, d1, d2) = lb at *
          cases lb
          · have HV := Lib.hid (HBAD.out (by rw [HR.out]; rfl))
            go_wp2_with fail
            go_ret
            exact ⟨by rw [HV.out]; rfl, HB2.out⟩
          · have HV := Lib.hid (HSTEP'.out (by rw [HR.out, HOK.out]; rfl))
            go_wp2_with fail
            go_roundw
            case rel => exact ⟨k + 1, by omega, by go_num, HV.out, HB2.out⟩
            case measure => simp [intOf]; omega
        · by_cases hpar : (hi - lo) % 2 = 1
          · have HV := Lib.hid (HSTEP'.out (by rw [HR.out, HOK.out, if_pos rfl, decide_eq_true hpar]; rfl))
            have t1 : (((hi : Int) - (lo : Int)) % 2 == 0) = false := by simp; omega
            clear hpar
            go_wp2_with fail
            go_roundw
            case rel => exact ⟨k + 1, by omega, by go_num, HV.out, HB1.out⟩
            case measure => simp [intOf]; omega
          · have HV := Lib.hid (HBAD.out (by rw [HR.out, if_pos rfl, decide_eq_false hpar]; rfl))
            have t1 : (((hi : Int) - (lo : Int)) % 2 == 0) = true := by simp; omega
            clear hpar
            go_wp2_with fail
            go_ret
            exact ⟨by rw [HV.out]; rfl, HB1.out⟩
    · have HV := Lib.hid (valid_of (L := L) (fun j hj => hok j (by omega)))
      have HB := Lib.hid hbl
      clear hok hbl hT hu
      go_wp2
      go_ret
      exact ⟨by rw [HV.out]; rfl, HB.out⟩
end Go.Proofs.YtdabmoekhobgiaaDoor
