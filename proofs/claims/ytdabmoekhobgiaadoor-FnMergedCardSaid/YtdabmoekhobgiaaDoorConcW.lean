/-
  Contracts of slices.Clone, laws.sorted, slices.Grow and slices.Concat for lists of up to 2^48 bytes: all that the model's memory bears. Conditions: the lists lie in memory.
-/
import Derived.Test.YtdabmoekhobgiaaDoorConcA
import Derived.Test.YtdabmoekhobgiaaDoorSorted
import Derived.Deep.DeepAppendRoom
namespace Go.Proofs.YtdabmoekhobgiaaDoor
open Go.Shelf Go.RowKit Go.Lib Go.Sort

theorem next0 {n : Nat} (h : 0 < n) : Builtin.nextslicecap (0 + n) 0 = n := by
  unfold Builtin.nextslicecap
  rw [if_pos (by omega)]
  omega

set_option maxHeartbeats 1000000 in
set_option maxRecDepth 1000000 in
theorem grow_big (n : Nat) (w : World) (hn : n * 20 ≤ 281474976710656) (h0 : 0 < n) :
    Calls Tryd.prog 52 #[.slice none 0 0, .int .i64 n] w fun e w' => ∃ g cp, e = .returned (.slice (some ⟨g, 0, none⟩) 0 cp) ∧ n ≤ cp ∧ w.heap.size ≤ g ∧ w'.ownsRow w.heap.size 42 5 (.slice (some ⟨g, 0, none⟩) 0 cp) 0 [] ∧ RowKit.Below w.heap.size w w' := by
  obtain ⟨i0, hi, hz0, hz1, hz2⟩ := info_parts info42
  have hold : (Builtin.firstCells i0.size 0 (.slice none 0 0)).run Tryd.prog w.drew = .ok ([] : List Value).toArray w.drew := run_firstCells_none w.drew i0.size 0 0 0
  have hrz : ∀ ty, _ := fun ty => Lib.run_append_grow_zeros (P := Tryd.prog) w 33 3 ty 42 i0 _ .i64 .i64 Tryd.underlying33 Tryd.underlying3 hi hz0 none 0 0 [] hold n h0 (by rw [hz1]; decide) (by omega) (by omega) (by rw [hz2]; exact hn) (by rw [hz2, next0 h0]; exact hn)
  have hge := grownCap_ge w (0 + n) 0 42
  have hmx := grownCap_le_maxLen w (0 + n) 0 42 (by unfold maxLen; omega)
  generalize grownCap w (0 + n) 0 42 = cp at *
  simp only [Nat.zero_add] at hrz hge hmx
  obtain ⟨W', hr, ho, hb⟩ : ∃ W', (∀ ty, (Builtin.append_ #[33, 3] ty #[.slice none 0 0, .int .i64 n]).run Tryd.prog w = .ok (.slice (some ⟨w.heap.size, 0, none⟩) n cp) W') ∧ W'.ownsRow w.heap.size 42 5 (.slice (some ⟨w.heap.size, 0, none⟩) 0 cp) 0 [] ∧ RowKit.Below w.heap.size w W' := by
    refine ⟨_, hrz, ⟨rfl, .inr ⟨w.heap.size, cp, _, rfl, Nat.le_refl _, heap_alloc_new w.drew _, Nat.zero_le _, hmx, ?_, rfl⟩⟩, ((RowKit.Below.refl w.heap.size w).drew).alloc (Nat.le_refl _) _⟩
    simp only [Array.size_append, size_zeroCells]
    simp [Value.cells]
    omega
  have HR := Lib.hid hr
  have HO := Lib.hid ho
  have HB := Lib.hid hb
  have hmx' : cp ≤ 9223372036854775807 := hmx
  clear hrz hold hmx hr ho hb
  go_enter Tryd.func52, Tryd.ntmps52
  go_wp2_with (at_builtin; refine Lib.wpList_append_run _ rfl _ _ _ _ rfl _ _ rfl rfl _ _ (HR.out _) ?_)
  go_wp2
  go_ret
  exact ⟨w.heap.size, cp, rfl, hge, Nat.le_refl _, HO.out, HB.out⟩

set_option maxHeartbeats 1000000 in
set_option maxRecDepth 1000000 in
theorem cloneR_wide (L : List Rw) (A : Option Addr) (cap : Nat) (w : World) (hT : RowsAt w A L) (hlen : L.length * 20 ≤ 281474976710656) :
    Calls Tryd.prog 27 #[.slice A L.length cap] w fun e w' => ∃ v, e = .returned v ∧ w'.ownsRow w.heap.size 42 5 v L.length (cellsOf L) ∧ RowKit.Below w.heap.size w w' := by
  rcases Nat.lt_or_ge 140737488355328 (L.length * 20) with hbig | hsm
  · have hq := fun (w : World) (a : Option Addr) (n c : Nat) => Lib.run_eql_slice_nil (P := Tryd.prog) w 33 42 a n c 0 0 Tryd.underlying33
    rcases A with _ | ad
    · rcases hT with h | ⟨b, off, h, _⟩
      · subst h; simp at hbig
      · cases h
    obtain ⟨i0, hi, hz0, hz1, hz2⟩ := info_parts info42
    have hcells := hT.cells
    have hrun : ∀ ty, _ := fun ty => run_append_grow (P := Tryd.prog) (w.alloc (.cells #[] 42)) 33 ty 42 i0 _ Tryd.underlying33 hi hz0 ⟨w.heap.size, 0, none⟩ 0 0 [] (by simp) (fun j v h => by simp at h) ad L.length cap (cellsOf L) (by rw [hz1]; exact cellsOf_length L)
      (fun j u hu => by
        have h := hcells j u hu
        rw [World.cell?_alloc_lt]
        · exact h
        · rcases Nat.lt_or_ge (ad.add j).block w.heap.size with hlt | hge
          · exact hlt
          · unfold World.cell? at h
            rw [Array.getElem?_eq_none hge] at h
            cases h) (by omega) (by omega) (by rw [hz2, next0 (by omega)]; exact hlen)
    have hge := grownCap_ge (w.alloc (.cells #[] 42)) (0 + L.length) 0 42
    have hmx := grownCap_le_maxLen (w.alloc (.cells #[] 42)) (0 + L.length) 0 42 (by unfold maxLen; omega)
    generalize grownCap (w.alloc (.cells #[] 42)) (0 + L.length) 0 42 = cp at *
    simp only [Nat.zero_add] at hrun hge hmx
    obtain ⟨W', v', hr, ho, hb⟩ : ∃ W' v', (∀ ty, (Builtin.append_ #[33, 33] ty #[.slice (some ⟨w.heap.size, 0, none⟩) 0 0, .slice (some ad) L.length cap]).run Tryd.prog (w.alloc (.cells #[] 42)) = .ok v' W') ∧ W'.ownsRow w.heap.size 42 5 v' L.length (cellsOf L) ∧ RowKit.Below w.heap.size w W' := by
      refine ⟨_, _, hrun, ⟨cellsOf_length L, .inr ⟨(w.alloc (.cells #[] 42)).heap.size, cp, _, rfl, by simp, heap_alloc_new (w.alloc (.cells #[] 42)).drew _, hge, hmx, ?_, ?_⟩⟩, (((RowKit.Below.refl w.heap.size w).alloc (Nat.le_refl _) _).drew).alloc (by simp) _⟩
      · simp only [Array.size_append, size_zeroCells]
        simp [Value.cells, cellsOf_length]
        omega
      · have hcl := cellsOf_length L
        simp [← hcl]
    have HR := Lib.hid hr
    have HO := Lib.hid ho
    have HB := Lib.hid hb
    clear hrun hmx hr ho hb hcells hT
    go_enter Tryd.func27, Tryd.ntmps27
    go_wp2_with (at_builtin; refine Lib.wpList_append_run _ rfl _ _ _ _ rfl _ _ rfl rfl _ _ (HR.out _) ?_)
    go_wp2
    go_ret
    exact ⟨_, rfl, HO.out, HB.out⟩
  · exact cloneR_any L A cap w hT hsm

set_option maxHeartbeats 1000000 in
theorem sort_wide (L : List Rw) (hlo : ∀ x ∈ L, x.1 < 4294967296) (base : Nat) (v : Value) (w : World) (ho : w.ownsRow base 42 5 v L.length (cellsOf L)) (hlen : L.length * 20 ≤ 281474976710656) :
    Calls Tryd.prog 50 #[v, .func (.func 51) #[] #[]] w fun e w' => e = .returned (.tuple #[]) ∧ ∃ L' A cap, v = .slice A L.length cap ∧ L'.Perm L ∧ ByLo L' ∧ RowsAt w' A L' ∧ RowKit.Below base w w' := by
  rcases ho.2 with ⟨rfl, h0⟩ | ⟨g, cap, cur, rfl, hg, hh, hc, hm, hs, ht⟩
  · have hL : L = [] := List.eq_nil_of_length_eq_zero h0
    subst hL
    have h := AnyF.slices_SortFunc_none (P := Tryd.prog) (ρ := Tryd.sortL_ren) Tryd.sortL none 0 (.func (.func 51) #[] #[]) w
    change Calls Tryd.prog 50 _ _ _ at h
    refine h.mono ?_
    rintro e w' ⟨rfl, rfl⟩
    exact ⟨rfl, [], none, 0, rfl, .refl _, fun i j _ h => by simp at h, .inl rfl, Below.refl _ _⟩
  · have hlt : g < w.heap.size := by
      rcases Nat.lt_or_ge g w.heap.size with hlt | hge
      · exact hlt
      · rw [Array.getElem?_eq_none hge] at hh; cases hh
    have hH : HoldsK encS 5 w g 0 L.toArray := by
      intro j hj
      rw [size_flatK] at hj
      have hjl : j < L.length * 5 := by simpa using hj
      have hi : j / 5 < L.length := by omega
      rw [get_flatK _ _ _ _ hj, toArray_get hi, encS_of (hlo _ (List.mem_of_getElem? (rowAt_lt hi)))]
      refine ⟨?_, ?_⟩
      · rw [Nat.zero_add, ho.cellAt j (by omega)]
        have h5 : j = j / 5 * 5 + j % 5 := by omega
        have hm5 : j % 5 < 5 := Nat.mod_lt _ (by omega)
        conv => lhs; rw [h5]
        rw [cellsOf_at L (j / 5) (j % 5) _ (rowAt_lt hi) hm5, getElem!_pos _ _ (by rw [rowCells_length]; exact hm5), List.getElem?_eq_getElem (by rw [rowCells_length]; exact hm5)]
        rfl
      · unfold World.frozen?
        simp only [hh]
        simp
    have hln : L.toArray.size = L.length := by simp
    have eg : ∀ args w, (callFunc 51 args).run Tryd.prog w = .ok (.enter 51 args) w := enters_of Tryd.func51 (by kernel_rfl) rfl
    have h := AnyQ.slices_SortFunc Tryd.sortL 5 Tryd.isAgg42 Tryd.sizeOf42 encS (fun _ => rfl) (fun x => rowCells_one _) cfS swoS 51 #[] g 0 cap L.toArray w eg (cmpLays51 g 0 _ w) hH hlt (by rw [hln]; omega)
    change Calls Tryd.prog 50 _ _ _ at h
    rw [hln] at h
    refine h.mono ?_
    rintro e w' ⟨rfl, d', n, os, hp, hsrt, rfl⟩
    obtain ⟨hsz, _, hperm⟩ := hp
    have hperm' : d'.toList.Perm L := by
      have e1 : (d'.extract 0 L.length) = d' := by
        rw [← hln, ← hsz]; exact Array.extract_size
      have e2 : (L.toArray.extract 0 L.length) = L.toArray := by
        conv => lhs; rw [← hln]
        exact Array.extract_size
      rw [e1, e2] at hperm
      simpa using hperm
    have hll : d'.toList.length = L.length := hperm'.length_eq
    have hd : ∀ i, i < L.length → d'[i]! = rowAt d'.toList i := fun i hi => by
      have := toArray_get (L := d'.toList) (i := i) (by omega)
      simpa using this
    have hlo' : ∀ i, i < L.length → (rowAt d'.toList i).1 < 4294967296 := fun i hi =>
      hlo _ (hperm'.mem_iff.1 (List.mem_of_getElem? (rowAt_lt (by omega))))
    refine ⟨rfl, d'.toList, some ⟨g, 0, none⟩, cap, rfl, hperm', ?_, ?_, ?_⟩
    · intro i j hij hj
      have h1 := hsrt i j (Nat.zero_le _) hij (by omega)
      rw [ltS, hd i (by omega), hd j (by omega), Nat.mod_eq_of_lt (hlo' i (by omega)), Nat.mod_eq_of_lt (hlo' j (by omega))] at h1
      simpa using h1
    · have hK := holdsK_sortWorldK_c encS 5 w g 0 L.toArray d' n os hH hlt (by rw [hsz])
      refine .inr ⟨g, 0, rfl, Nat.lt_of_lt_of_le hlt (size_sortWorldK_c _ _ _ _ _ _ _ _), fun i hi => ?_⟩
      have hc := fun c hc => (hK.cell (i := i) (c := c) (by rw [hsz, hln]; omega) hc).1
      rw [hd i (by omega), encS_of (hlo' i (by omega))] at hc
      exact ⟨by simpa [rowCells] using hc 0 (by omega), by simpa [rowCells] using hc 1 (by omega), by simpa [rowCells] using hc 2 (by omega), by simpa [rowCells] using hc 3 (by omega), by simpa [rowCells] using hc 4 (by omega)⟩
    · refine ⟨rfl, rfl, rfl, size_sortWorldK_c _ _ _ _ _ _ _ _, fun k hk => ?_⟩
      have hkg : k < w.heap.size := by omega
      unfold sortWorldK putRowK putRow mapBlock grow Sort.ahead
      dsimp only
      rw [Array.getElem?_append_left (by simpa using hkg), Array.getElem?_modify, if_neg (by omega)]

set_option maxHeartbeats 1000000 in
set_option maxRecDepth 1000000 in
theorem sorted_wide (L : List Rw) (A : Option Addr) (cap : Nat) (w : World) (hT : RowsAt w A L) (hlo : ∀ x ∈ L, x.1 < 4294967296) (hlen : L.length * 20 ≤ 281474976710656) :
    Calls Tryd.prog 37 #[.slice A L.length cap] w fun e w' => ∃ L' A' cap', e = .returned (.slice A' L'.length cap') ∧ L'.Perm L ∧ ByLo L' ∧ RowsAt w' A' L' ∧ RowKit.Below w.heap.size w w' := by
  have cC := Lib.hid (cloneR_wide L A cap w hT hlen)
  have hL := Lib.hid hlo
  have hN := Lib.hid hlen
  clear hT hlo hlen
  go_enter Tryd.func37, Tryd.ntmps37
  go_wp2_with fail
  refine cC.out.mono ?_
  rintro e w1 ⟨v, rfl, ho, hb⟩
  have HO := Lib.hid ho
  have HB := Lib.hid hb
  clear ho hb cC
  go_wp2_with fail
  refine (sort_wide L hL.out w.heap.size v w1 HO.out hN.out).mono ?_
  rintro e w2 ⟨rfl, L', A', cap', hv, hp, hs, hT', hb2⟩
  subst hv
  have H := Lib.hid (⟨hp, hs, hT', HB.out.trans hb2⟩ : L'.Perm L ∧ ByLo L' ∧ RowsAt w2 A' L' ∧ RowKit.Below w.heap.size w w2)
  have hle := Lib.hid hp.length_eq
  clear hp hs hT' hb2 HO HB hL
  go_wp2
  go_ret
  obtain ⟨h1, h2, h3, h4⟩ := H.out
  exact ⟨L', A', cap', by rw [hle.out]; rfl, h1, h2, h3, h4⟩
set_option maxHeartbeats 4000000 in
set_option maxRecDepth 1000000 in
theorem concat_big (L M : List Rw) (A B : Option Addr) (c1 c2 b : Nat) (w : World) (hA : RowsAt w A L) (hB : RowsAt w B M) (hA0 : A = none → c1 = 0) (hB0 : B = none → c2 = 0) (hb : b < w.heap.size)
    (hc0 : w.cell? ⟨b, 0, none⟩ = some (.slice A L.length c1)) (hc1 : w.cell? ⟨b, 1, none⟩ = some (.slice B M.length c2)) (hlen : (L.length + M.length) * 20 ≤ 281474976710656) (hbig : 140737488355328 < (L.length + M.length) * 20) :
    Calls Tryd.prog 39 #[.slice (some ⟨b, 0, none⟩) 2 2] w fun e w' => ∃ v, e = .returned v ∧ w'.ownsRow w.heap.size 42 5 v (L.length + M.length) (cellsOf (L ++ M)) ∧ RowKit.Below w.heap.size w w' := by
  obtain ⟨i0, hi, hz0, hz1, hz2⟩ := info_parts info42
  have HA := Lib.hid hA
  have HB := Lib.hid hB
  have HA0 := Lib.hid hA0
  have HB0 := Lib.hid hB0
  have HC0 := Lib.hid hc0
  have HC1 := Lib.hid hc1
  clear hA hB hA0 hB0 hc0 hc1
  go_enter Tryd.func39, Tryd.ntmps39
  go_wp2
  go_loopw [3, 11] (fun s i wr => ∃ k : Nat, k ≤ 2 ∧ i = .int .i64 k ∧ s = .int .i64 (cat L M k).length ∧ wr = w) (fun _ i _ => 2 - (intOf i).toNat)
  case atStart => exact ⟨0, by omega, rfl, rfl, rfl⟩
  case round =>
    obtain ⟨k, hk, rfl, rfl, rfl⟩ := hrel
    have hk3 : k = 0 ∨ k = 1 ∨ k = 2 := by omega
    rcases hk3 with rfl | rfl | rfl
    · have q0 := HC0.out
      simp only [cat, List.length_nil]
      go_wp2
      go_roundw
      case rel => exact ⟨1, by omega, by go_num, by simp, trivial⟩
      case measure => simp [intOf]
    · have q1 := HC1.out
      simp only [cat]
      go_wp2
      go_roundw
      case rel => exact ⟨2, by omega, by go_num, by simp, trivial⟩
      case measure => simp [intOf]
    · simp only [cat, List.length_append]
      have cG := Lib.hid (grow_big (L.length + M.length) wr (by omega) (by omega))
      go_wp2_with fail
      refine (cG.out).mono ?_
      rintro e w1 ⟨g, cp, rfl, hcp, hg, ho, hb1⟩
      have HO := Lib.hid ho
      have HB1 := Lib.hid hb1
      clear ho hb1 cG
      go_wp2_with fail
      obtain ⟨wo, rfl⟩ : ∃ wo : World, wo = wr := ⟨_, rfl⟩
      go_loopw [6, 27] (fun v i wr => ∃ k : Nat, k ≤ 2 ∧ i = .int .i64 k ∧ v = .slice (some ⟨g, 0, none⟩) (cat L M k).length cp ∧ wr.ownsRow wo.heap.size 42 5 (.slice (some ⟨g, 0, none⟩) (cat L M k).length cp) (cat L M k).length (cellsOf (cat L M k)) ∧ RowKit.Below wo.heap.size wo wr) (fun _ i _ => 2 - (intOf i).toNat)
      case atStart => exact ⟨0, by omega, rfl, rfl, HO.out, HB1.out⟩
      case round =>
        obtain ⟨k, hk, rfl, rfl, hown, hbl⟩ := hrel
        clear HO HB1
        have hk3 : k = 0 ∨ k = 1 ∨ k = 2 := by omega
        rcases hk3 with rfl | rfl | rfl
        · simp only [cat, List.length_nil] at hown ⊢
          have q0 := (hbl.cell (p := ⟨b, 0, none⟩) hb).trans HC0.out
          have HBL := Lib.hid hbl
          have hR := HA.out.below hbl (Nat.le_refl _)
          have hs1 := hbl.size
          rcases A with _ | ad
          · obtain rfl := HA0.out rfl
            have hL : L = [] := by
              rcases hR with h | ⟨_, _, h, _⟩
              · exact h
              · cases h
            have HL := Lib.hid hL
            rw [hL, List.length_nil] at q0
            clear hR hbl hL
            go_wp2_with (at_builtin; refine wpList_append_own_none rfl _ _ 33 rfl wo.heap.size 42 i0 5 Tryd.underlying33 hi _ _ _ rfl hown rfl ?_)
            have HO1 := Lib.hid hown
            clear hown
            go_wp2
            go_roundw
            case rel => exact ⟨1, by omega, by go_num, by rw [HL.out]; rfl, by rw [HL.out]; exact HO1.out, HBL.out⟩
            case measure => simp [intOf]
          · have HCL := Lib.hid hR.cells
            have HONE := Lib.hid (cellsOf_one L)
            have HCN := Lib.hid (cellsOf_length L)
            clear hR hbl
            go_wp2_with (at_builtin; refine wpList_append_own_spare _ rfl _ _ 33 rfl wo.heap.size 42 i0 5 Tryd.underlying33 hi hz1 g _ cp _ rfl hown ad L.length c1 (cellsOf L) rfl HCN.out HCL.out HONE.out ?p3 ?_)
            case p3 => omega
            intro w2 hown' hgrow
            have hrel : w2.ownsRow wo.heap.size 42 5 (.slice (some ⟨g, 0, none⟩) (cat L M 1).length cp) (cat L M 1).length (cellsOf (cat L M 1)) := by
              simpa [cat, show cellsOf [] = [] from rfl] using hown'
            have hbl2 : RowKit.Below wo.heap.size wo w2 := HBL.out.grown hgrow hs1 (fun g' hg => by have := hown.lt g' hg; omega)
            have HO4 := Lib.hid hrel
            have HB4 := Lib.hid hbl2
            clear hown' hgrow hown hrel hbl2
            go_wp2
            go_roundw
            case rel => exact ⟨1, by omega, by go_num, by simp, HO4.out, HB4.out⟩
            case measure => simp [intOf]
        · simp only [cat] at hown ⊢
          have q1 := (hbl.cell (p := ⟨b, 1, none⟩) hb).trans HC1.out
          have HBL := Lib.hid hbl
          have hR := HB.out.below hbl (Nat.le_refl _)
          have hs1 := hbl.size
          rcases B with _ | ad
          · obtain rfl := HB0.out rfl
            have hL : M = [] := by
              rcases hR with h | ⟨_, _, h, _⟩
              · exact h
              · cases h
            have HL := Lib.hid hL
            rw [hL, List.length_nil] at q1
            clear hR hbl hL
            go_wp2_with (at_builtin; refine wpList_append_own_none rfl _ _ 33 rfl wo.heap.size 42 i0 5 Tryd.underlying33 hi _ _ _ rfl hown rfl ?_)
            have HO1 := Lib.hid hown
            clear hown
            go_wp2
            go_roundw
            case rel => exact ⟨2, by omega, by go_num, by rw [HL.out, List.append_nil]; rfl, by rw [HL.out, List.append_nil]; exact HO1.out, HBL.out⟩
            case measure => simp [intOf]
          · have HCL := Lib.hid hR.cells
            have HONE := Lib.hid (cellsOf_one M)
            have HCN := Lib.hid (cellsOf_length M)
            clear hR hbl
            go_wp2_with (at_builtin; refine wpList_append_own_spare _ rfl _ _ 33 rfl wo.heap.size 42 i0 5 Tryd.underlying33 hi hz1 g _ cp _ rfl hown ad M.length c2 (cellsOf M) rfl HCN.out HCL.out HONE.out ?q3 ?_)
            case q3 => omega
            intro w2 hown' hgrow
            have hrel : w2.ownsRow wo.heap.size 42 5 (.slice (some ⟨g, 0, none⟩) (cat L M 2).length cp) (cat L M 2).length (cellsOf (cat L M 2)) := by
              simp only [cat]; rw [cellsOf_append, List.length_append]; exact hown'
            have hbl2 : RowKit.Below wo.heap.size wo w2 := HBL.out.grown hgrow hs1 (fun g' hg => by have := hown.lt g' hg; omega)
            have HO4 := Lib.hid hrel
            have HB4 := Lib.hid hbl2
            clear hown' hgrow hown hrel hbl2
            go_wp2
            go_roundw
            case rel => exact ⟨2, by omega, by go_num, by simp, HO4.out, HB4.out⟩
            case measure => simp [intOf]
        · simp only [cat, List.length_append] at hown ⊢
          have HO := Lib.hid hown
          have HBL := Lib.hid hbl
          clear hown hbl
          go_wp2
          go_ret
          exact ⟨_, rfl, HO.out, HBL.out⟩

theorem concat_wide (L M : List Rw) (A B : Option Addr) (c1 c2 b : Nat) (w : World) (hA : RowsAt w A L) (hB : RowsAt w B M) (hA0 : A = none → c1 = 0) (hB0 : B = none → c2 = 0) (hb : b < w.heap.size)
    (hc0 : w.cell? ⟨b, 0, none⟩ = some (.slice A L.length c1)) (hc1 : w.cell? ⟨b, 1, none⟩ = some (.slice B M.length c2)) (hlen : (L.length + M.length) * 20 ≤ 281474976710656) :
    Calls Tryd.prog 39 #[.slice (some ⟨b, 0, none⟩) 2 2] w fun e w' => ∃ v, e = .returned v ∧ w'.ownsRow w.heap.size 42 5 v (L.length + M.length) (cellsOf (L ++ M)) ∧ RowKit.Below w.heap.size w w' := by
  rcases Nat.lt_or_ge 140737488355328 ((L.length + M.length) * 20) with h | h
  · exact concat_big L M A B c1 c2 b w hA hB hA0 hB0 hb hc0 hc1 hlen h
  · exact concat_any L M A B c1 c2 b w hA hB hA0 hB0 hb hc0 hc1 h
end Go.Proofs.YtdabmoekhobgiaaDoor
