/-
  The frame that all laws of this seat share: what the listed table gives, how the arguments (numbers, lists of case ranges, slices of ints) are opened, what a law that returns true and leaves old memory alone owes its row, and the witness. Conditions: those of the given rows.
-/
import Derived.Test.YtdabmoekhobgiaaDoorCards
import Derived.Test.YtdabmoekhobgiaaDoorTie
import Derived.Test.YtdabmoekhobgiaaDoorMem
import Derived.ProofKit
import Derived.OpenShut
import Derived.Deep.DeepHandedRow
import Derived.Deep.Slices
import Derived.SizedLaws
import Derived.Lib.LaidU8
import Derived.Lay
import Derived.PinnedBridge
namespace Go.Proofs.YtdabmoekhobgiaaDoor
open Go.ChangeShapes Go.WideShapes Go.ChangeAt Go.RowKit

theorem own : ownKnob Tryd.prog.godebug = none := by kernel_rfl
theorem laidOut : laidOutB Tryd.prog = true := by kernel_rfl
theorem cells21 : Tryd.prog.cellsOf 21 = 1 := by kernel_rfl
theorem cells23 : Tryd.prog.cellsOf 23 = 1 := by kernel_rfl
theorem cells24 : Tryd.prog.cellsOf 24 = 3 := by kernel_rfl
theorem cells74 : Tryd.prog.cellsOf 74 = 3 := by kernel_rfl
theorem cells26 : Tryd.prog.cellsOf 26 = 5 := by kernel_rfl
theorem cells76 : Tryd.prog.cellsOf 76 = 5 := by kernel_rfl
theorem cells3 : Tryd.prog.cellsOf 3 = 1 := by kernel_rfl
theorem cells27 : Tryd.prog.cellsOf 27 = 1 := by kernel_rfl
theorem bytes26 : Tryd.prog.bytesOf 26 = 20 := by kernel_rfl
theorem bytes3 : Tryd.prog.bytesOf 3 = 8 := by kernel_rfl
theorem bytes27 : Tryd.prog.bytesOf 27 = 24 := by kernel_rfl
theorem bytes21 : Tryd.prog.bytesOf 21 = 4 := by kernel_rfl

theorem list3 {α : Type} : ∀ {l : List α}, l.length = 3 → ∃ a b c, l = [a, b, c]
  | [a, b, c], _ => ⟨a, b, c, rfl⟩
theorem list5 {α : Type} : ∀ {l : List α}, l.length = 5 → ∃ a b c d e, l = [a, b, c, d, e]
  | [a, b, c, d, e], _ => ⟨a, b, c, d, e, rfl⟩

/-- The numbers of a row fit their kinds. -/
structure RwWf (x : Rw) : Prop where
  lo : x.1 < 4294967296
  hi : x.2.1 < 4294967296
  d : ∀ c, -2147483648 ≤ dlt x c ∧ dlt x c ≤ 2147483647

theorem wf_u32 {z : Int} (h : (Lit.int .u32 z).wf = true) : 0 ≤ z ∧ z < 4294967296 := by
  have : 0 ≤ z ∧ z ≤ 4294967295 := by simpa [Lit.wf, IntKind.min, IntKind.max, IntKind.signed, IntKind.bits] using h
  omega
theorem wf_i32 {z : Int} (h : (Lit.int .i32 z).wf = true) : -2147483648 ≤ z ∧ z ≤ 2147483647 := by
  simpa [Lit.wf, IntKind.min, IntKind.max, IntKind.signed, IntKind.bits] using h
theorem wf_i64 {z : Int} (h : (Lit.int .i64 z).wf = true) : -9223372036854775808 ≤ z ∧ z ≤ 9223372036854775807 := by
  simpa [Lit.wf, IntKind.min, IntKind.max, IntKind.signed, IntKind.bits] using h

section
variable {H : Type} {enc : TypeId × Value → H} {w : World} {base : Nat} {sp : Nat → Bool} {held : Bool}

/-- ONE ROW of a struct type t (its deltas an array of type ta): what reads as data is five cells. -/
theorem open_row {t ta : TypeId} {fuel : Nat} {cs : List Value} {d : DataW H} {p : List MemPlace}
    (ht : Tryd.prog.underlying t = some (.struct #[{ name := "Lo", type := 23, offset := 0, embedded := false, tag := "", pkgPath := "", byteOffset := 0 }, { name := "Hi", type := 23, offset := 1, embedded := false, tag := "", pkgPath := "", byteOffset := 4 }, { name := "Delta", type := ta, offset := 2, embedded := false, tag := "", pkgPath := "", byteOffset := 8 }]))
    (hta : Tryd.prog.underlying ta = some (.array 3 21)) (ct : Tryd.prog.cellsOf t = 5) (cta : Tryd.prog.cellsOf ta = 3)
    (h : DataW.trod enc Tryd.prog w base sp held fuel t cs = some (d, p)) : ∃ x : Rw, cs = rowCells x ∧ RwWf x ∧ d = Lib.rowData x := by
  obtain ⟨xs, n, rfl, hx, hl, hxl, hall⟩ := DataW.trod_struct ht h
  rw [ct] at hl
  obtain ⟨x0, x1, x2, rfl⟩ := list3 hxl
  have f0 := hall 0 _ rfl
  have f1 := hall 1 _ rfl
  have f2 := hall 2 _ rfl
  simp only [Prod.mk.injEq] at hx
  obtain ⟨hd, -⟩ := hx
  obtain ⟨c0, c1, c2, c3, c4, rfl⟩ := list5 hl
  change DataW.trod _ _ _ _ _ _ _ 23 (([c0, c1, c2, c3, c4].drop 0).take (Tryd.prog.cellsOf 23)) = some x0 at f0
  change DataW.trod _ _ _ _ _ _ _ 23 (([c0, c1, c2, c3, c4].drop 1).take (Tryd.prog.cellsOf 23)) = some x1 at f1
  change DataW.trod _ _ _ _ _ _ _ ta (([c0, c1, c2, c3, c4].drop 2).take (Tryd.prog.cellsOf ta)) = some x2 at f2
  rw [cells23] at f0 f1
  rw [cta] at f2
  change DataW.trod _ _ _ _ _ _ _ 23 [c0] = some x0 at f0
  change DataW.trod _ _ _ _ _ _ _ 23 [c1] = some x1 at f1
  change DataW.trod _ _ _ _ _ _ _ ta [c2, c3, c4] = some x2 at f2
  obtain ⟨z0, hz0, rfl, w0⟩ := DataW.trod_int Tryd.underlying23 f0
  obtain ⟨z1, hz1, rfl, w1⟩ := DataW.trod_int Tryd.underlying23 f1
  obtain ⟨ys, m, -, rfl, -, hyl, hel⟩ := DataW.trod_array hta f2
  obtain ⟨y0, y1, y2, rfl⟩ := list3 hyl
  have g0 := hel 0 (by omega)
  have g1 := hel 1 (by omega)
  have g2 := hel 2 (by omega)
  rw [cells21] at g0 g1 g2
  change DataW.trod _ _ _ _ _ _ _ 21 [c2] = some y0 at g0
  change DataW.trod _ _ _ _ _ _ _ 21 [c3] = some y1 at g1
  change DataW.trod _ _ _ _ _ _ _ 21 [c4] = some y2 at g2
  obtain ⟨z2, hz2, rfl, w2⟩ := DataW.trod_int Tryd.underlying21 g0
  obtain ⟨z3, hz3, rfl, w3⟩ := DataW.trod_int Tryd.underlying21 g1
  obtain ⟨z4, hz4, rfl, w4⟩ := DataW.trod_int Tryd.underlying21 g2
  simp only [List.cons.injEq, and_true] at hz0 hz1 hz2 hz3 hz4
  subst hz0 hz1 hz2 hz3 hz4
  have b0 := wf_u32 w0
  have b1 := wf_u32 w1
  obtain ⟨n0, rfl⟩ := Int.eq_ofNat_of_zero_le b0.1
  obtain ⟨n1, rfl⟩ := Int.eq_ofNat_of_zero_le b1.1
  refine ⟨(n0, n1, z2, z3, z4), rfl, ⟨by simpa using (by omega : n0 < 4294967296), by simpa using (by omega : n1 < 4294967296), fun c => ?_⟩, hd⟩
  match c with
  | 0 => exact wf_i32 w2
  | 1 => exact wf_i32 w3
  | _ + 2 => exact wf_i32 w4

theorem row_of_cells {b off k : Nat} {x : Rw} {cs : List Value} (hc : w.cells? base ((⟨b, off, none⟩ : Addr).add (k * 5)) 5 = some cs) (h : cs = rowCells x) : RowIs w b (off + k * 5) x := by
  obtain ⟨_, _, hat⟩ := World.cells?_some hc
  subst h
  simp only [add_plain] at hat
  exact ⟨by simpa [rowCells] using hat 0 (by omega), by simpa [rowCells] using hat 1 (by omega), by simpa [rowCells] using hat 2 (by omega), by simpa [rowCells] using hat 3 (by omega), by simpa [rowCells] using hat 4 (by omega)⟩

theorem spot_none {a : Addr} {n m : Nat} {cs : List Value} {x : Rw} (hn : n = 0) (hm : 0 < m) (hc : w.cells? base (a.add n) m = some cs) (h : cs = rowCells x) : ∃ b off, a = ⟨b, off, none⟩ := by
  obtain ⟨b, off, spot⟩ := a
  obtain ⟨_, _, hat⟩ := World.cells?_some hc
  subst h hn
  have h0 := hat 0 hm
  have e : (Addr.add (Addr.add ⟨b, off, spot⟩ 0) 0) = ⟨b, off, spot⟩ := by simp [Addr.add]
  rw [e] at h0
  have : spot = none := cell_spot (v := .int .u32 x.1) (by rw [h0]; rfl)
  exact ⟨b, off, by rw [this]⟩

/-- What is known of a list of case ranges that came in. -/
structure InRows (w : World) (A : Option Addr) (len cap : Nat) (L : List Rw) : Prop where
  rows : RowsAt w A L
  len : L.length = len
  wf : ∀ x ∈ L, RwWf x

theorem cell_lt {w : World} {b o : Nat} {v : Value} (h : w.cell? ⟨b, o, none⟩ = some v) : b < w.heap.size := by
  rcases Nat.lt_or_ge b w.heap.size with hlt | hge
  · exact hlt
  · unfold World.cell? at h
    rw [Array.getElem?_eq_none hge] at h
    cases h

theorem open_rows {t e ta : TypeId} {fuel : Nat} {v : Value} {d : DataW H} {p : List MemPlace} (hs : Tryd.prog.underlying t = some (.slice e))
    (ht : Tryd.prog.underlying e = some (.struct #[{ name := "Lo", type := 23, offset := 0, embedded := false, tag := "", pkgPath := "", byteOffset := 0 }, { name := "Hi", type := 23, offset := 1, embedded := false, tag := "", pkgPath := "", byteOffset := 4 }, { name := "Delta", type := ta, offset := 2, embedded := false, tag := "", pkgPath := "", byteOffset := 8 }]))
    (hta : Tryd.prog.underlying ta = some (.array 3 21)) (ct : Tryd.prog.cellsOf e = 5) (cta : Tryd.prog.cellsOf ta = 3)
    (h : DataW.trod enc Tryd.prog w base sp held fuel t [v] = some (d, p)) : ∃ A len cap L, v = .slice A len cap ∧ InRows w A len cap L ∧ cap ≤ maxLen ∧ len ≤ cap ∧
      ((A = none ∧ d = .nil) ∨ ∃ rest, d = .slice (L.map Lib.rowData) rest) := by
  rcases Go.Deep.open_slice hs h with ⟨hcs, hx⟩ | ⟨a, len, cap, m, n, D, Pl, hcs, hb, hl, hm, hmm, hx, hel⟩
  · simp only [List.cons.injEq, and_true] at hcs
    subst hcs
    exact ⟨none, 0, 0, [], rfl, ⟨.inl rfl, rfl, fun _ h => by cases h⟩, by simp [maxLen], by omega, .inl ⟨rfl, by simpa using congrArg Prod.fst hx⟩⟩
  · simp only [List.cons.injEq, and_true] at hcs
    subst hcs
    have hlm : len ≤ m := by rw [hmm]; split <;> omega
    rw [ct] at hel
    have hrow : ∀ i, i < len → ∃ (x : Rw) (cs : List Value), w.cells? base (a.add (i * 5)) 5 = some cs ∧ cs = rowCells x ∧ RwWf x ∧ D i = Lib.rowData x := fun i hi => by
      obtain ⟨cs', h1, h2⟩ := hel i (by omega)
      obtain ⟨x, hx1, hx2, hx3⟩ := open_row ht hta ct cta h2
      exact ⟨x, cs', h1, hx1, hx2, hx3⟩
    obtain ⟨X, hX⟩ := Go.Deep.choose_lt (α := Rw) (p := fun i x => ∃ cs : List Value, w.cells? base (a.add (i * 5)) 5 = some cs ∧ cs = rowCells x ∧ RwWf x ∧ D i = Lib.rowData x) (n := len) (fun i hi => hrow i hi)
    have hd : d = _ := congrArg Prod.fst hx
    have hmap : (List.range len).map D = (List.range len).map (Lib.rowData ∘ X) := List.map_congr_left fun i hi => by
      obtain ⟨_, -, -, -, h4⟩ := hX i (List.mem_range.1 hi)
      exact h4
    refine ⟨some a, len, cap, (List.range len).map X, rfl, ⟨?_, by simp, fun x hx' => ?_⟩, hm, hl, .inr ⟨_, hd.trans (by rw [List.map_map, hmap])⟩⟩
    · rcases Nat.eq_zero_or_pos len with h0 | h0
      · left; rw [h0]; rfl
      · right
        obtain ⟨cs, h1, h2, -, -⟩ := hX 0 h0
        obtain ⟨b, off, rfl⟩ := spot_none (by omega) (by omega) h1 h2
        have hr : ∀ i, i < len → RowIs w b (off + i * 5) (X i) := fun i hi => by
          obtain ⟨cs, h1, h2, -, -⟩ := hX i hi
          exact row_of_cells h1 h2
        refine ⟨b, off, rfl, cell_lt (hr 0 h0).1, fun i hi => ?_⟩
        have hi' : i < len := by simpa using hi
        rw [rowAt_some (x := X i) (by simp [hi'])]
        exact hr i hi'
    · obtain ⟨i, hi, rfl⟩ := List.mem_map.1 hx'
      obtain ⟨_, -, -, h3, -⟩ := hX i (List.mem_range.1 hi)
      exact h3

theorem open_steps {fuel : Nat} {v : Value} {d : DataW H} {p : List MemPlace} (h : DataW.trod enc Tryd.prog w base sp held fuel 22 [v] = some (d, p)) :
    ∃ A len cap zs, v = .slice A len cap ∧ IntsAt w A zs ∧ zs.length = len ∧ len ≤ 9223372036854775807 := by
  rcases Go.Deep.open_slice Tryd.underlying22 h with ⟨hcs, hx⟩ | ⟨a, len, cap, m, n, D, Pl, hcs, hb, hl, hm, hmm, hx, hel⟩
  · simp only [List.cons.injEq, and_true] at hcs
    subst hcs
    exact ⟨none, 0, 0, [], rfl, .inl rfl, rfl, by omega⟩
  · simp only [List.cons.injEq, and_true] at hcs
    subst hcs
    have hlm : len ≤ m := by rw [hmm]; split <;> omega
    rw [cells3] at hel
    obtain ⟨Z, hZ⟩ := Go.Deep.choose_lt (α := Int) (p := fun i z => w.cell? (a.add i) = some (.int .i64 z)) (n := len) (fun i hi => by
      obtain ⟨cs', h1, h2⟩ := hel i (by omega)
      obtain ⟨z, rfl, -, -⟩ := DataW.trod_int Tryd.underlying3 h2
      obtain ⟨_, _, hat⟩ := World.cells?_some h1
      exact ⟨z, by simpa [Addr.add_zero'] using hat 0 (by omega)⟩)
    refine ⟨some a, len, cap, (List.range len).map Z, rfl, ?_, by simp, by unfold maxLen at hm; omega⟩
    rcases Nat.eq_zero_or_pos len with h0 | h0
    · left; rw [h0]; rfl
    · right
      obtain ⟨b, off, spot⟩ := a
      have hc := hZ 0 h0
      have hspot : spot = none := by simpa [Addr.add] using World.cell?_spot hc
      subst hspot
      simp only [add_plain] at hZ
      refine ⟨b, off, rfl, cell_lt (hZ 0 h0), fun i hi => ?_⟩
      have hi' : i < len := by simpa using hi
      rw [hZ i hi']
      simp [hi']
end

theorem rowData_inj {x y : Rw} (h : (Lib.rowData x : DataW Unit) = Lib.rowData y) : x = y := by
  obtain ⟨a, b, c, d, e⟩ := x
  obtain ⟨a', b', c', d', e'⟩ := y
  simp only [Lib.rowData, DataW.agg.injEq, List.cons.injEq, DataW.lit.injEq, Lit.int.injEq, true_and, and_true] at h
  obtain ⟨h1, h2, h3, h4, h5⟩ := h
  simp only [Prod.mk.injEq]
  exact ⟨by omega, by omega, h3, h4, h5⟩

abbrev laid1 : List (String × DataW Unit) := [("unicode.CaseRanges", Rows.laid_unicode_CaseRanges)]
theorem g0 : Tryd.prog.globalNamed "unicode.CaseRanges" = some 0 := by kernel_rfl
theorem g0Type : (Tryd.prog.globals[0]?).map (·.type) = some 64 := by kernel_rfl

/-- WHAT THE ROW's LIST GIVES: the variable holds the library's table. -/
theorem caseV_of_laid {W : World} (h : laidMetH Tryd.prog laid1 W) : CaseV W := by
  rw [MakeChecks.laidMetH_plain _ _ _ (by kernel_rfl)] at h
  obtain ⟨g, t, cs, fuel, p, hg, hty, hvar, hd⟩ := Lib.laidMet.reads h (.head _)
  obtain rfl := Option.some.inj (g0.symm.trans hg)
  obtain rfl := Option.some.inj (g0Type.symm.trans hty)
  rw [show Rows.laid_unicode_CaseRanges = Lib.caseData from Pinned.caseRanges_eq] at hd
  obtain ⟨v, hv⟩ : ∃ v, cs.toList = [v] := by
    rcases DataW.trod_slice Tryd.underlying64 hd with ⟨h1, _⟩ | ⟨a', len, cap, el, rs, m, _, h1, _⟩
    · exact ⟨_, h1⟩
    · exact ⟨_, h1⟩
  rw [hv] at hd
  obtain ⟨A, len, cap, L, rfl, hin, -, -, hdd⟩ := open_rows Tryd.underlying64 Tryd.underlying76 Tryd.underlying74 cells76 cells74 hd
  have hL : L = Lib.caseT := by
    rcases hdd with ⟨_, hd'⟩ | ⟨rest, hd'⟩
    · cases hd'
    · simp only [Lib.caseData, DataW.slice.injEq] at hd'
      have := hd'.1
      exact ((List.map_inj_right (fun x y h => rowData_inj h)).1 this).symm
  subst hL
  have hlen : len = 336 := by rw [← hin.len, caseT_length]
  subst hlen
  have hc := World.var?_cell hg hvar 0
  rw [← Array.getElem?_toList, hv] at hc
  rcases hin.rows with h0 | ⟨b, off, rfl, hb, hT⟩
  · have := congrArg List.length h0
    rw [caseT_length] at this
    cases this
  · exact ⟨b, off, cap, hc, cell_lt hc, hb, hT⟩

theorem below_trodAll {P : Program} (hl : laidOutB P = true) {H : Type} {enc : TypeId × Value → H} {W W' : World} (hb : Below W.heap.size W W') : ∀ (ts : List TypeId) {vs : List Value} {ds : List (DataW H)} {ps : List MemPlace},
    (ts.all fun t => P.readableRec t && decide (t < P.types.size)) = true → DataW.TrodAll enc P W 0 (fun _ => true) true ts vs ds ps → (∀ x ∈ ps, x.block < W.heap.size) →
    DataW.TrodAll enc P W' 0 (fun b => decide (b < W.heap.size)) true ts vs ds ps := by
  intro ts
  induction ts with
  | nil =>
    intro vs ds ps _ h _
    cases vs <;> cases ds <;> simp [DataW.TrodAll] at h ⊢
    exact h
  | cons t ts ih =>
    intro vs ds ps hr h hlt
    obtain ⟨v, vs', d, ds', p, q, rfl, rfl, rfl, h1, h2⟩ := trodAll_cons h
    rw [List.all_cons, Bool.and_eq_true, Bool.and_eq_true, decide_eq_true_eq] at hr
    exact ⟨p, q, Below.trod hl hr.1.1 hr.1.2 h1 hb (fun x hx => hlt x (List.mem_append_left _ hx)), ih hr.2 h2 (fun x hx => hlt x (List.mem_append_right _ hx)), rfl⟩

/-- WHAT A LAW OWES ITS ROW: true is returned, old memory is as it was. -/
theorem law_post {H : Type} {enc : TypeId × Value → H} {f : Func} {s : ChangeSpec} {W W' : World} {args : Array Value} {ds gs : List (DataW H)} {before : List MemPlace}
    (hW : DataW.Whole enc Tryd.prog f.params.toList s.vars false W args.toList ds gs before) (hv : s.vars = []) (hres : f.resultTypes = #[4])
    (hr : (f.params.toList.all fun t => Tryd.prog.readableRec t && decide (t < Tryd.prog.types.size)) = true)
    (hs : s.fn H (ds ++ []) = { results := [.lit (.bool true)], args := ds }) (hb : Below W.heap.size W W') :
    s.post enc Tryd.prog f false true false false W args (.bool true) W' := by
  have hW' := hW
  obtain ⟨p, q, hA, hV, rfl, hfz, hnd⟩ := hW
  rw [hv] at hV
  obtain ⟨rfl, rfl⟩ := trodVars_none hV
  have hlt : ∀ x ∈ p, x.block < W.heap.size := fun x hx => hW'.lt x (by simpa using hx)
  refine ⟨ds, [], p ++ [], [], p, [], hW', ?_, ?_, ?_, hb.frame _, fun h => by cases h⟩
  · rw [hs, hres]
    exact trodAll_cons_mk (shut_bool Tryd.underlying4 _) trodAll_mk0
  · rw [hs]
    exact below_trodAll laidOut hb _ hr hA hlt
  · rw [hv, hs]
    rfl

theorem rows_none {w : World} {A : Option Addr} {len cap : Nat} {L : List Rw} (h : InRows w A len cap L) (hA : A = none) : L.length * 20 ≤ 140737488351232 := by
  rcases h.rows with rfl | ⟨b, off, e, _⟩
  · simp
  · rw [hA] at e; cases e

theorem arr_eq {args : Array Value} {l : List Value} (h : args.toList = l) : args = l.toArray := by rw [← h]

/-! The witness: the settled world, the table laid into it. -/
set_option maxRecDepth 100000 in
theorem wit_shaped (os : Os) (args : Array Value) : ((World.laidAll Tryd.prog os laid1).forCall (fun _ _ => 0) ⟨#[], args, []⟩).Shaped Tryd.prog :=
  World.shaped_of_ZipB (by kernel_rfl) (by kernel_rfl)
set_option maxRecDepth 100000 in
theorem wit_laid (os : Os) (args : Array Value) : laidMetH Tryd.prog laid1 ((World.laidAll Tryd.prog os laid1).forCall (fun _ _ => 0) ⟨#[], args, []⟩).memory := by
  rw [MakeChecks.laidMetH_plain _ _ _ (by kernel_rfl)]
  exact laidMet_laidAll _ (by kernel_rfl) (by kernel_rfl)
end Go.Proofs.YtdabmoekhobgiaaDoor
