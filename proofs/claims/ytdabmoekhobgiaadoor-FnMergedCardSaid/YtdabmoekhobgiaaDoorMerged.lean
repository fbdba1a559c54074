/-
  laws.FnMerged: the tied card: for every input the call returns true, and each argument reads afterwards as it read before. Conditions: those of the given row (unicode.CaseRanges as the library's text lays it).
-/
import Derived.Test.YtdabmoekhobgiaaDoorFrame
import Derived.Test.YtdabmoekhobgiaaDoorMergedB
namespace Go.Proofs.YtdabmoekhobgiaaDoor.fnMerged
open Go.ChangeShapes Go.WideShapes Go.ChangeAt Go.RowKit

set_option maxRecDepth 100000 in
theorem contract (H : Type) (enc : TypeId × Value → H) (W : World) (base : Nat) (args : Array Value) (ds gs : List (DataW H)) (before : List MemPlace)
    (hval : ∀ (j : Nat) t v, Tryd.f14.params[j]? = some t → args[j]? = some v → Value.okWide Tryd.prog W .any base t v)
    (hW : DataW.Whole enc Tryd.prog Tryd.f14.params.toList Rows.fnMergedSpec.vars false W args.toList ds gs before)
    (hsz0 : (DataW.weightsEach Tryd.prog (Tryd.f14.params.toList ++ (OpenSpec.ofChange Rows.fnMergedSpec).bare.plain.varTypes Tryd.prog) (ds ++ gs)).all (· ≤ reachBytes) = true) (hL : laidMetH Tryd.prog Rows.fnMergedRow.laid W) :
    Calls Tryd.prog 14 args W fun e W' => ∃ v, e = .returned v ∧ Rows.fnMergedSpec.post enc Tryd.prog Tryd.f14 false true false false W args v W' := by
  have hW' := hW
  obtain ⟨p, q, hA0, hV, rfl, hfz, hnd⟩ := hW
  have hA : DataW.TrodAll enc Tryd.prog W 0 (fun _ => true) true Tryd.f14.params.toList args.toList ds p := hA0
  obtain ⟨rfl, rfl⟩ := trodVars_none hV
  have hsz : (DataW.weightsEach Tryd.prog (Tryd.f14.params.toList ++ []) (ds ++ [])).all (· ≤ reachBytes) = true := hsz0
  rw [Tryd.params14] at hA hval hsz
  simp only [List.append_nil] at hsz
  obtain ⟨v0, vs0, d0, ds0, p0, q0, hargs, rfl, rfl, h0, r0⟩ := trodAll_cons hA
  obtain ⟨v1, vs1, d1, ds1, p1, q1, rfl, rfl, rfl, h1, r1⟩ := trodAll_cons r0
  obtain ⟨v2, vs2, d2, ds2, p2, q2, rfl, rfl, rfl, h2, r2⟩ := trodAll_cons r1
  obtain ⟨rfl, rfl, rfl⟩ := trodAll_nil r2
  obtain rfl := arr_eq hargs
  obtain ⟨a0, l0, c0, rfl⟩ := okWide_slice Tryd.underlying27 (hval 0 27 v0 rfl rfl)
  obtain ⟨fuel0, hf0⟩ := h0
  obtain ⟨A0, len0, cap0, L0, e0, hin0, hm0, hl0, hd0⟩ := open_rows Tryd.underlying27 Tryd.underlying26 Tryd.underlying24 cells26 cells24 hf0
  cases e0
  have hb0 : L0.length * 20 ≤ 140737488351232 := by
    rcases hd0 with ⟨hn0, -⟩ | ⟨rest, rfl⟩
    · exact rows_none hin0 hn0
    · have := sized_slice hsz (j := 0) (t := 27) (e := 26) rfl rfl Tryd.underlying27
      rw [bytes26] at this; simp only [List.length_map, reachBytes] at this; omega
  obtain ⟨a1, l1, c1, rfl⟩ := okWide_slice Tryd.underlying27 (hval 1 27 v1 rfl rfl)
  obtain ⟨fuel1, hf1⟩ := h1
  obtain ⟨A1, len1, cap1, L1, e1, hin1, hm1, hl1, hd1⟩ := open_rows Tryd.underlying27 Tryd.underlying26 Tryd.underlying24 cells26 cells24 hf1
  cases e1
  have hb1 : L1.length * 20 ≤ 140737488351232 := by
    rcases hd1 with ⟨hn1, -⟩ | ⟨rest, rfl⟩
    · exact rows_none hin1 hn1
    · have := sized_slice hsz (j := 1) (t := 27) (e := 26) rfl rfl Tryd.underlying27
      rw [bytes26] at this; simp only [List.length_map, reachBytes] at this; omega
  obtain ⟨x2, rfl, rfl, rfl, w2⟩ := open_int Tryd.underlying21 (hval 2 21 v2 rfl rfl) h2
  refine (law a0 l0 c0 L0 a1 l1 c1 L1 x2 W (caseV_of_laid hL) hin0.rows hin0.len (fun i hi => ⟨(hin0.wf _ (rowAt_mem hi)).lo, (hin0.wf _ (rowAt_mem hi)).hi⟩) hb0 hin1.rows hin1.len (fun i hi => ⟨(hin1.wf _ (rowAt_mem hi)).lo, (hin1.wf _ (rowAt_mem hi)).hi⟩) hb1 (wf_i32 w2)).mono fun e W' ⟨he, hb⟩ => ?_
  subst he
  exact ⟨_, rfl, law_post hW' rfl (by kernel_rfl) (by kernel_rfl) rfl hb⟩

set_option maxRecDepth 100000 in
theorem lifted (os : Os) (started : os.Started) (H : Type) (enc : TypeId × Value → H) (F : Stop.Interp) :
    ReturnsInHanded {} Tryd.checked os 14 .any ((OpenSpec.ofChange Rows.fnMergedSpec).preRow enc Tryd.prog Tryd.f14 Rows.fnMergedRow.domain false Rows.fnMergedRow.laid) (((OpenSpec.ofChange Rows.fnMergedSpec).at F).post enc Tryd.prog Tryd.f14 false true false false) := by
  refine returnsInHanded_of_row (C := Tryd.checked) (s := OpenSpec.ofChange Rows.fnMergedSpec) own started (by kernel_rfl) Tryd.func14
    (ChangeSpec.witness_shaped (enc := enc) (C := Tryd.checked) (os := os) (s := Rows.fnMergedSpec) (X := fun w _ => laidMetH Tryd.prog laid1 w) false (World.laidAll Tryd.prog os laid1) #[.slice none 0 0, .slice none 0 0, .int .i32 0] 8 (World.laidAll_os _ _ _)
      (wit_shaped os _) (by kernel_rfl) (by kernel_rfl) (by kernel_rfl) (wit_laid os _)) ?_
  intro W base args ds gs before hval hW _ _ hsz hL _ _
  exact contract H enc W base args ds gs before hval hW hsz hL

theorem said : Rows.FnMergedSaid :=
  OpenClaim.holds_of_cond 14 Tryd.f14 rfl rfl rfl rfl rfl rfl rfl ⟨rfl, rfl, rfl, rfl, rfl⟩ rfl rfl rfl rfl rfl (by kernel_rfl) Tryd.func14 (by kernel_rfl)
    (of_decide_eq_true (by kernel_rfl)) (by unfold Func.isWrapper; first | (rw [if_pos (by decide +kernel)]; kernel_rfl) | (rw [if_neg (by decide +kernel)]; exact ⟨rfl, rfl⟩))
    (fun os started H enc _ F => by rw [OpenClaim.pre_eq_preRow]; exact lifted os started H enc F)

theorem plain (f : FuncId) (fn : Func) (hf : Tryd.pinned.checked.prog.funcNamed "lib-lettermill/laws.FnMerged" = some f) (hfn : Tryd.pinned.checked.prog.funcs[f]? = some fn) :
    false = Tryd.pinned.checked.prog.looks [] ∧ ∀ (j : Nat) t, fn.params[j]? = some t → Tryd.pinned.checked.prog.wantsStandIn t = false := by
  obtain rfl : f = 14 := Option.some.inj ((show Tryd.prog.funcNamed "lib-lettermill/laws.FnMerged" = some 14 by kernel_rfl).symm.trans hf) |>.symm
  obtain rfl : fn = Tryd.f14 := (Option.some.inj (Tryd.func14.symm.trans hfn)).symm
  refine ⟨by kernel_rfl, fun j t ht => ?_⟩
  rw [Tryd.params14] at ht
  have hm : t ∈ [27, 27, 21] := by simpa using Array.mem_of_getElem? ht
  have h := List.all_eq_true.1 (show ([27, 27, 21].all fun t => !(Tryd.prog.wantsStandIn t)) = true by kernel_rfl) t hm
  rw [Bool.not_eq_true'] at h
  exact h

/-- THE CARD. -/
theorem card : Rows.FnMergedCardSaid :=
  Claim7.holds_tied_plain_at .later [] _ _ _ _ said (fun _ h => by cases h) (by kernel_rfl) (fun _ h => by cases h) fnMerged_row_tie rfl ⟨rfl, rfl⟩ (by kernel_rfl) rfl plain (by kernel_rfl)
end Go.Proofs.YtdabmoekhobgiaaDoor.fnMerged
