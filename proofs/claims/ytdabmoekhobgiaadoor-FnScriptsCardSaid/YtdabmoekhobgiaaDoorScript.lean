/-
  laws.FnScripts: the tied card: for every input the call returns true, and each argument reads afterwards as it read before. Conditions: those of the given row (unicode.CaseRanges as the library's text lays it).
-/
import Derived.Test.YtdabmoekhobgiaaDoorFrame
import Derived.Test.YtdabmoekhobgiaaDoorFrameC
import Derived.Test.YtdabmoekhobgiaaDoorScriptB
namespace Go.Proofs.YtdabmoekhobgiaaDoor.fnScripts
open Go.ChangeShapes Go.WideShapes Go.ChangeAt Go.RowKit

set_option maxRecDepth 100000 in
theorem contract (H : Type) (enc : TypeId × Value → H) (W : World) (base : Nat) (args : Array Value) (ds gs : List (DataW H)) (before : List MemPlace)
    (hval : ∀ (j : Nat) t v, Tryd.f10.params[j]? = some t → args[j]? = some v → Value.okWide Tryd.prog W .any base t v)
    (hW : DataW.Whole enc Tryd.prog Tryd.f10.params.toList Rows.fnScriptsSpec.vars false W args.toList ds gs before)
    (hsz0 : (DataW.weightsEach Tryd.prog (Tryd.f10.params.toList ++ (OpenSpec.ofChange Rows.fnScriptsSpec).bare.plain.varTypes Tryd.prog) (ds ++ gs)).all (· ≤ reachBytes) = true) (hL : laidMetH Tryd.prog Rows.fnScriptsRow.laid W) :
    Calls Tryd.prog 10 args W fun e W' => ∃ v, e = .returned v ∧ Rows.fnScriptsSpec.post enc Tryd.prog Tryd.f10 false true false false W args v W' := by
  have hW' := hW
  obtain ⟨p, q, hA0, hV, rfl, hfz, hnd⟩ := hW
  have hA : DataW.TrodAll enc Tryd.prog W 0 (fun _ => true) true Tryd.f10.params.toList args.toList ds p := hA0
  obtain ⟨rfl, rfl⟩ := trodVars_none hV
  have hsz : (DataW.weightsEach Tryd.prog (Tryd.f10.params.toList ++ []) (ds ++ [])).all (· ≤ reachBytes) = true := hsz0
  rw [Tryd.params10] at hA hval hsz
  simp only [List.append_nil] at hsz
  obtain ⟨v0, vs0, d0, ds0, p0, q0, hargs, rfl, rfl, h0, r0⟩ := trodAll_cons hA
  obtain ⟨v1, vs1, d1, ds1, p1, q1, rfl, rfl, rfl, h1, r1⟩ := trodAll_cons r0
  obtain ⟨v2, vs2, d2, ds2, p2, q2, rfl, rfl, rfl, h2, r2⟩ := trodAll_cons r1
  obtain ⟨rfl, rfl, rfl⟩ := trodAll_nil r2
  obtain rfl := arr_eq hargs
  obtain ⟨a0, l0, c0, rfl⟩ := okWide_slice Tryd.underlying49 (hval 0 49 v0 rfl rfl)
  obtain ⟨fuel0, hf0⟩ := h0
  obtain ⟨A0, len0, cap0, LL0, e0, hin0, hlen0, hwf0, hl0⟩ := open_lists hf0 (fun n hn => by have := List.all_eq_true.1 hsz n (DataW.weights_mem_each (j := 0) (t := 49) rfl rfl n hn); simpa using this)
  cases e0
  obtain ⟨a1, l1, c1, rfl⟩ := okWide_slice Tryd.underlying22 (hval 1 22 v1 rfl rfl)
  obtain ⟨fuel1, hf1⟩ := h1
  obtain ⟨A1, len1, cap1, zs1, e1, hS1, hz1, hl1, hw1⟩ := open_steps2 hf1
  cases e1
  obtain ⟨a2, l2, c2, rfl⟩ := okWide_slice Tryd.underlying52 (hval 2 52 v2 rfl rfl)
  obtain ⟨fuel2, hf2⟩ := h2
  obtain ⟨A2, len2, cap2, zs2, e2, hS2, hz2, hw2, hd2⟩ := open_word hf2
  cases e2
  have hl2 : l2 * 4 ≤ 140737488351232 := by
    rcases hd2 with h0 | ⟨es, rest, rfl, he⟩
    · omega
    · have := sized_slice hsz (j := 2) (t := 52) (e := 21) rfl rfl Tryd.underlying52
      rw [bytes21] at this; simp only [reachBytes] at this; omega
  refine (law a0 l0 c0 LL0 a1 l1 c1 zs1 a2 l2 c2 zs2 W (caseV_of_laid hL) hin0 hlen0 hwf0 hl0 hS1 hz1 hl1 hw1 hS2 hz2 hw2 hl2).mono fun e W' ⟨he, hb⟩ => ?_
  subst he
  exact ⟨_, rfl, law_post hW' rfl (by kernel_rfl) (by kernel_rfl) rfl hb⟩

set_option maxRecDepth 100000 in
theorem lifted (os : Os) (started : os.Started) (H : Type) (enc : TypeId × Value → H) (F : Stop.Interp) :
    ReturnsInHanded {} Tryd.checked os 10 .any ((OpenSpec.ofChange Rows.fnScriptsSpec).preRow enc Tryd.prog Tryd.f10 Rows.fnScriptsRow.domain false Rows.fnScriptsRow.laid) (((OpenSpec.ofChange Rows.fnScriptsSpec).at F).post enc Tryd.prog Tryd.f10 false true false false) := by
  refine returnsInHanded_of_row (C := Tryd.checked) (s := OpenSpec.ofChange Rows.fnScriptsSpec) own started (by kernel_rfl) Tryd.func10
    (ChangeSpec.witness_shaped (enc := enc) (C := Tryd.checked) (os := os) (s := Rows.fnScriptsSpec) (X := fun w _ => laidMetH Tryd.prog laid1 w) false (World.laidAll Tryd.prog os laid1) #[.slice none 0 0, .slice none 0 0, .slice none 0 0] 8 (World.laidAll_os _ _ _)
      (wit_shaped os _) (by kernel_rfl) (by kernel_rfl) (by kernel_rfl) (wit_laid os _)) ?_
  intro W base args ds gs before hval hW _ _ hsz hL _ _
  exact contract H enc W base args ds gs before hval hW hsz hL

theorem said : Rows.FnScriptsSaid :=
  OpenClaim.holds_of_cond 10 Tryd.f10 rfl rfl rfl rfl rfl rfl rfl ⟨rfl, rfl, rfl, rfl, rfl⟩ rfl rfl rfl rfl rfl (by kernel_rfl) Tryd.func10 (by kernel_rfl)
    (of_decide_eq_true (by kernel_rfl)) (by unfold Func.isWrapper; first | (rw [if_pos (by decide +kernel)]; kernel_rfl) | (rw [if_neg (by decide +kernel)]; exact ⟨rfl, rfl⟩))
    (fun os started H enc _ F => by rw [OpenClaim.pre_eq_preRow]; exact lifted os started H enc F)

theorem plain (f : FuncId) (fn : Func) (hf : Tryd.pinned.checked.prog.funcNamed "lib-lettermill/laws.FnScripts" = some f) (hfn : Tryd.pinned.checked.prog.funcs[f]? = some fn) :
    false = Tryd.pinned.checked.prog.looks [] ∧ ∀ (j : Nat) t, fn.params[j]? = some t → Tryd.pinned.checked.prog.wantsStandIn t = false := by
  obtain rfl : f = 10 := Option.some.inj ((show Tryd.prog.funcNamed "lib-lettermill/laws.FnScripts" = some 10 by kernel_rfl).symm.trans hf) |>.symm
  obtain rfl : fn = Tryd.f10 := (Option.some.inj (Tryd.func10.symm.trans hfn)).symm
  refine ⟨by kernel_rfl, fun j t ht => ?_⟩
  rw [Tryd.params10] at ht
  have hm : t ∈ [49, 22, 52] := by simpa using Array.mem_of_getElem? ht
  have h := List.all_eq_true.1 (show ([49, 22, 52].all fun t => !(Tryd.prog.wantsStandIn t)) = true by kernel_rfl) t hm
  rw [Bool.not_eq_true'] at h
  exact h

/-- THE CARD. -/
theorem card : Rows.FnScriptsCardSaid :=
  Claim7.holds_tied_plain_at .later [] _ _ _ _ said (fun _ h => by cases h) (by kernel_rfl) (fun _ h => by cases h) fnScripts_row_tie rfl ⟨rfl, rfl⟩ (by kernel_rfl) rfl plain (by kernel_rfl)
end Go.Proofs.YtdabmoekhobgiaaDoor.fnScripts
