/-
  laws.FnAlphabet: the tied card: for every input the call returns true, and each argument reads afterwards as it read before. Conditions: those of the given row (unicode.CaseRanges as the library's text lays it).
-/
import Derived.Test.YtdabmoekhobgiaaDoorFrame
import Derived.Test.YtdabmoekhobgiaaDoorAlphaD
namespace Go.Proofs.YtdabmoekhobgiaaDoor.fnAlphabet
open Go.ChangeShapes Go.WideShapes Go.ChangeAt Go.RowKit

set_option maxRecDepth 100000 in
theorem contract (H : Type) (enc : TypeId × Value → H) (W : World) (base : Nat) (args : Array Value) (ds gs : List (DataW H)) (before : List MemPlace)
    (hval : ∀ (j : Nat) t v, Tryd.f13.params[j]? = some t → args[j]? = some v → Value.okWide Tryd.prog W .any base t v)
    (hW : DataW.Whole enc Tryd.prog Tryd.f13.params.toList Rows.fnAlphabetSpec.vars false W args.toList ds gs before)
    (hsz0 : (DataW.weightsEach Tryd.prog (Tryd.f13.params.toList ++ (OpenSpec.ofChange Rows.fnAlphabetSpec).bare.plain.varTypes Tryd.prog) (ds ++ gs)).all (· ≤ reachBytes) = true) (hL : laidMetH Tryd.prog Rows.fnAlphabetRow.laid W) :
    Calls Tryd.prog 13 args W fun e W' => ∃ v, e = .returned v ∧ Rows.fnAlphabetSpec.post enc Tryd.prog Tryd.f13 false true false false W args v W' := by
  have hW' := hW
  obtain ⟨p, q, hA0, hV, rfl, hfz, hnd⟩ := hW
  have hA : DataW.TrodAll enc Tryd.prog W 0 (fun _ => true) true Tryd.f13.params.toList args.toList ds p := hA0
  obtain ⟨rfl, rfl⟩ := trodVars_none hV
  have hsz : (DataW.weightsEach Tryd.prog (Tryd.f13.params.toList ++ []) (ds ++ [])).all (· ≤ reachBytes) = true := hsz0
  rw [Tryd.params13] at hA hval hsz
  simp only [List.append_nil] at hsz
  obtain ⟨v0, vs0, d0, ds0, p0, q0, hargs, rfl, rfl, h0, r0⟩ := trodAll_cons hA
  obtain ⟨v1, vs1, d1, ds1, p1, q1, rfl, rfl, rfl, h1, r1⟩ := trodAll_cons r0
  obtain ⟨v2, vs2, d2, ds2, p2, q2, rfl, rfl, rfl, h2, r2⟩ := trodAll_cons r1
  obtain ⟨v3, vs3, d3, ds3, p3, q3, rfl, rfl, rfl, h3, r3⟩ := trodAll_cons r2
  obtain ⟨v4, vs4, d4, ds4, p4, q4, rfl, rfl, rfl, h4, r4⟩ := trodAll_cons r3
  obtain ⟨rfl, rfl, rfl⟩ := trodAll_nil r4
  obtain rfl := arr_eq hargs
  obtain ⟨x0, rfl, rfl, rfl, w0⟩ := open_int Tryd.underlying21 (hval 0 21 v0 rfl rfl) h0
  obtain ⟨x1, rfl, rfl, rfl, w1⟩ := open_int Tryd.underlying21 (hval 1 21 v1 rfl rfl) h1
  obtain ⟨x2, rfl, rfl, rfl, w2⟩ := open_int Tryd.underlying3 (hval 2 3 v2 rfl rfl) h2
  obtain ⟨a3, l3, c3, rfl⟩ := okWide_slice Tryd.underlying22 (hval 3 22 v3 rfl rfl)
  obtain ⟨fuel3, hf3⟩ := h3
  obtain ⟨A3, len3, cap3, zs3, e3, hS3, hz3, hl3⟩ := open_steps hf3
  cases e3
  obtain ⟨x4, rfl, rfl, rfl, w4⟩ := open_int Tryd.underlying21 (hval 4 21 v4 rfl rfl) h4
  refine (law x0 x1 x2 a3 l3 c3 zs3 x4 W (caseV_of_laid hL) (wf_i32 w0) (wf_i32 w1) (wf_i64 w2) hS3 hz3 hl3 (wf_i32 w4)).mono fun e W' ⟨he, hb⟩ => ?_
  subst he
  exact ⟨_, rfl, law_post hW' rfl (by kernel_rfl) (by kernel_rfl) rfl hb⟩

set_option maxRecDepth 100000 in
theorem lifted (os : Os) (started : os.Started) (H : Type) (enc : TypeId × Value → H) (F : Stop.Interp) :
    ReturnsInHanded {} Tryd.checked os 13 .any ((OpenSpec.ofChange Rows.fnAlphabetSpec).preRow enc Tryd.prog Tryd.f13 Rows.fnAlphabetRow.domain false Rows.fnAlphabetRow.laid) (((OpenSpec.ofChange Rows.fnAlphabetSpec).at F).post enc Tryd.prog Tryd.f13 false true false false) := by
  refine returnsInHanded_of_row (C := Tryd.checked) (s := OpenSpec.ofChange Rows.fnAlphabetSpec) own started (by kernel_rfl) Tryd.func13
    (ChangeSpec.witness_shaped (enc := enc) (C := Tryd.checked) (os := os) (s := Rows.fnAlphabetSpec) (X := fun w _ => laidMetH Tryd.prog laid1 w) false (World.laidAll Tryd.prog os laid1) #[.int .i32 0, .int .i32 0, .int .i64 0, .slice none 0 0, .int .i32 0] 8 (World.laidAll_os _ _ _)
      (wit_shaped os _) (by kernel_rfl) (by kernel_rfl) (by kernel_rfl) (wit_laid os _)) ?_
  intro W base args ds gs before hval hW _ _ hsz hL _ _
  exact contract H enc W base args ds gs before hval hW hsz hL

theorem said : Rows.FnAlphabetSaid :=
  OpenClaim.holds_of_cond 13 Tryd.f13 rfl rfl rfl rfl rfl rfl rfl ⟨rfl, rfl, rfl, rfl, rfl⟩ rfl rfl rfl rfl rfl (by kernel_rfl) Tryd.func13 (by kernel_rfl)
    (of_decide_eq_true (by kernel_rfl)) (by unfold Func.isWrapper; first | (rw [if_pos (by decide +kernel)]; kernel_rfl) | (rw [if_neg (by decide +kernel)]; exact ⟨rfl, rfl⟩))
    (fun os started H enc _ F => by rw [OpenClaim.pre_eq_preRow]; exact lifted os started H enc F)

theorem plain (f : FuncId) (fn : Func) (hf : Tryd.pinned.checked.prog.funcNamed "lib-lettermill/laws.FnAlphabet" = some f) (hfn : Tryd.pinned.checked.prog.funcs[f]? = some fn) :
    false = Tryd.pinned.checked.prog.looks [] ∧ ∀ (j : Nat) t, fn.params[j]? = some t → Tryd.pinned.checked.prog.wantsStandIn t = false := by
  obtain rfl : f = 13 := Option.some.inj ((show Tryd.prog.funcNamed "lib-lettermill/laws.FnAlphabet" = some 13 by kernel_rfl).symm.trans hf) |>.symm
  obtain rfl : fn = Tryd.f13 := (Option.some.inj (Tryd.func13.symm.trans hfn)).symm
  refine ⟨by kernel_rfl, fun j t ht => ?_⟩
  rw [Tryd.params13] at ht
  have hm : t ∈ [21, 21, 3, 22, 21] := by simpa using Array.mem_of_getElem? ht
  have h := List.all_eq_true.1 (show ([21, 21, 3, 22, 21].all fun t => !(Tryd.prog.wantsStandIn t)) = true by kernel_rfl) t hm
  rw [Bool.not_eq_true'] at h
  exact h

/-- THE CARD. -/
theorem card : Rows.FnAlphabetCardSaid :=
  Claim7.holds_tied_plain_at .later [] _ _ _ _ said (fun _ h => by cases h) (by kernel_rfl) (fun _ h => by cases h) fnAlphabet_row_tie rfl ⟨rfl, rfl⟩ (by kernel_rfl) rfl plain (by kernel_rfl)
end Go.Proofs.YtdabmoekhobgiaaDoor.fnAlphabet
