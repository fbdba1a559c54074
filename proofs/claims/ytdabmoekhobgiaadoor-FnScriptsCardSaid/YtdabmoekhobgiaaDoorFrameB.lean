/-
  More arguments opened: slices of lists of case ranges, slices of ints with their bounds, words of runes. Conditions: those of the given rows.
-/
import Derived.Test.YtdabmoekhobgiaaDoorFrame
import Derived.Test.YtdabmoekhobgiaaDoorThru
namespace Go.Proofs.YtdabmoekhobgiaaDoor
open Go.ChangeShapes Go.WideShapes Go.ChangeAt Go.RowKit

section
variable {H : Type} {enc : TypeId × Value → H} {w : World} {base : Nat} {sp : Nat → Bool} {held : Bool}

theorem open_ints_of {t e : TypeId} {kd : IntKind} {fuel : Nat} {v : Value} {d : DataW H} {p : List MemPlace} (ht : Tryd.prog.underlying t = some (.slice e)) (he : Tryd.prog.underlying e = some (.int kd)) (hc : Tryd.prog.cellsOf e = 1)
    (h : DataW.trod enc Tryd.prog w base sp held fuel t [v] = some (d, p)) :
    ∃ A len cap zs, v = .slice A len cap ∧ (zs = [] ∨ ∃ b off, A = some ⟨b, off, none⟩ ∧ b < w.heap.size ∧ ∀ i, i < zs.length → w.cell? ⟨b, off + i, none⟩ = some (.int kd (zs.getD i 0))) ∧ zs.length = len ∧ len ≤ 9223372036854775807 ∧ (∀ z ∈ zs, (Lit.int kd z).wf = true) ∧
      (len = 0 ∨ ∃ es rest, d = .slice es rest ∧ es.length = len) := by
  rcases Go.Deep.open_slice ht h with ⟨hcs, hx⟩ | ⟨a, len, cap, m, n, D, Pl, hcs, hb, hl, hm, hmm, hx, hel⟩
  · simp only [List.cons.injEq, and_true] at hcs
    subst hcs
    exact ⟨none, 0, 0, [], rfl, .inl rfl, rfl, by omega, fun _ h => (by cases h), .inl rfl⟩
  · simp only [List.cons.injEq, and_true] at hcs
    subst hcs
    have hlm : len ≤ m := by rw [hmm]; split <;> omega
    rw [hc] at hel
    have hd : d = _ := congrArg Prod.fst hx
    obtain ⟨Zf, hZ⟩ := Go.Deep.choose_lt (α := Int) (p := fun i z => w.cell? (a.add i) = some (.int kd z) ∧ (Lit.int kd z).wf = true) (n := len) (fun i hi => by
      obtain ⟨cs', h1, h2⟩ := hel i (by omega)
      obtain ⟨z, rfl, -, hw⟩ := DataW.trod_int he h2
      obtain ⟨_, _, hat⟩ := World.cells?_some h1
      exact ⟨z, by simpa [Addr.add_zero'] using hat 0 (by omega), hw⟩)
    refine ⟨some a, len, cap, (List.range len).map Zf, rfl, ?_, by simp, by unfold maxLen at hm; omega, fun z hz => ?_, .inr ⟨_, _, hd, by simp⟩⟩
    · rcases Nat.eq_zero_or_pos len with h0 | h0
      · left; rw [h0]; rfl
      · right
        obtain ⟨b, off, spot⟩ := a
        have hc := (hZ 0 h0).1
        have hspot : spot = none := by simpa [Addr.add] using World.cell?_spot hc
        subst hspot
        simp only [add_plain] at hZ
        refine ⟨b, off, rfl, cell_lt (hZ 0 h0).1, fun i hi => ?_⟩
        have hi' : i < len := by simpa using hi
        rw [(hZ i hi').1]
        simp [hi']
    · obtain ⟨i, hi, rfl⟩ := List.mem_map.1 hz
      exact (hZ i (List.mem_range.1 hi)).2

theorem open_steps2 {fuel : Nat} {v : Value} {d : DataW H} {p : List MemPlace} (h : DataW.trod enc Tryd.prog w base sp held fuel 22 [v] = some (d, p)) :
    ∃ A len cap zs, v = .slice A len cap ∧ IntsAt w A zs ∧ zs.length = len ∧ len ≤ 9223372036854775807 ∧ ∀ z ∈ zs, -9223372036854775808 ≤ z ∧ z ≤ 9223372036854775807 := by
  obtain ⟨A, len, cap, zs, hv, h1, h2, h3, h4, -⟩ := open_ints_of Tryd.underlying22 Tryd.underlying3 cells3 h
  exact ⟨A, len, cap, zs, hv, h1, h2, h3, fun z hz => wf_i64 (h4 z hz)⟩

theorem weightsAll_mem {P : Program} {e : TypeId} : ∀ {l : List (DataW H)} {x : DataW H}, x ∈ l → ∀ n ∈ x.weights P e, n ∈ DataW.weightsAll P e l
  | y :: l, x, hx, n, hn => by
    simp only [DataW.weightsAll, List.mem_append]
    rcases List.mem_cons.1 hx with rfl | h
    · exact .inl hn
    · exact .inr (weightsAll_mem h n hn)

theorem rows_reach {A : Option Addr} {len cap : Nat} {L : List Rw} {d : DataW H} (hin : InRows w A len cap L) (hd : (A = none ∧ d = .nil) ∨ ∃ rest, d = .slice (L.map Lib.rowData) rest) (hw : ∀ n ∈ d.weights Tryd.prog 27, n ≤ reachBytes) : L.length * 20 ≤ 140737488351232 := by
  rcases hd with ⟨hn, -⟩ | ⟨rest, rfl⟩
  · exact rows_none hin hn
  · have := hw (((L.map Lib.rowData : List (DataW H)).length + rest.length) * Tryd.prog.bytesOf 26) (by simp [DataW.weights, Tryd.underlying27])
    rw [bytes26] at this
    simp only [List.length_map, reachBytes] at this
    omega

/-- A SLICE OF LISTS OF CASE RANGES. -/
theorem open_lists {fuel : Nat} {v : Value} {d : DataW H} {p : List MemPlace} (h : DataW.trod enc Tryd.prog w base sp held fuel 49 [v] = some (d, p)) (hw : ∀ n ∈ d.weights Tryd.prog 49, n ≤ reachBytes) :
    ∃ A len cap LL, v = .slice A len cap ∧ ListsAt w A LL ∧ LL.length = len ∧ (∀ L ∈ LL, U32Ok L ∧ L.length * 20 ≤ 140737488351232) ∧ len ≤ 4000000000000000000 := by
  rcases Go.Deep.open_slice1 Tryd.underlying49 cells27 h with ⟨hcs, hx⟩ | ⟨a, len, cap, m, n, V, D, Pl, hcs, hb, hl, hm, hmm, hx, hel⟩
  · simp only [List.cons.injEq, and_true] at hcs
    subst hcs
    exact ⟨none, 0, 0, [], rfl, .inl rfl, rfl, fun _ h => (by cases h), by omega⟩
  · simp only [List.cons.injEq, and_true] at hcs
    subst hcs
    have hlm : len ≤ m := by rw [hmm]; split <;> omega
    have hd : d = _ := congrArg Prod.fst hx
    subst hd
    have hlen : len ≤ 4000000000000000000 := by
      have := hw _ (by simp only [DataW.weights, Tryd.underlying49]; exact List.mem_cons_self)
      rw [bytes27] at this
      simp only [List.length_map, List.length_range, reachBytes] at this
      omega
    have hinner : ∀ i, i < len → ∀ n ∈ (D i).weights Tryd.prog 27, n ≤ reachBytes := fun i hi n hn => hw n (by
      simp only [DataW.weights, Tryd.underlying49]
      refine List.mem_cons_of_mem _ (List.mem_append_left _ (weightsAll_mem (List.mem_map.2 ⟨i, List.mem_range.2 hi, rfl⟩) n hn)))
    obtain ⟨F, hF⟩ := Go.Deep.choose_lt (α := List Rw) (p := fun i L => ∃ Ai ci, w.cell? (a.add i) = some (.slice Ai L.length ci) ∧ RowsAt w Ai L ∧ U32Ok L ∧ L.length * 20 ≤ 140737488351232) (n := len) (fun i hi => by
      obtain ⟨h1, h2⟩ := hel i (by omega)
      obtain ⟨Ai, li, ci, L, e, hin, -, -, hdd⟩ := open_rows Tryd.underlying27 Tryd.underlying26 Tryd.underlying24 cells26 cells24 h2
      have h20 := rows_reach hin hdd (hinner i hi)
      have hlL := hin.len
      subst hlL
      exact ⟨L, Ai, ci, by rw [h1, e], hin.rows, fun j hj => ⟨(hin.wf _ (rowAt_mem hj)).lo, (hin.wf _ (rowAt_mem hj)).hi⟩, h20⟩)
    refine ⟨some a, len, cap, (List.range len).map F, rfl, ?_, by simp, fun L hL => ?_, hlen⟩
    · rcases Nat.eq_zero_or_pos len with h0 | h0
      · left; rw [h0]; rfl
      · right
        obtain ⟨b, off, spot⟩ := a
        obtain ⟨A0, c0, hc, -⟩ := hF 0 h0
        have hspot : spot = none := by simpa [Addr.add] using World.cell?_spot hc
        subst hspot
        simp only [add_plain] at hF hc
        refine ⟨b, off, rfl, cell_lt hc, fun i hi => ?_⟩
        have hi' : i < len := by simpa using hi
        obtain ⟨Ai, ci, h1, h2, -⟩ := hF i hi'
        have e : listAt ((List.range len).map F) i = F i := by simp [listAt, hi']
        rw [e]
        exact ⟨Ai, ci, h1, h2⟩
    · obtain ⟨i, hi, rfl⟩ := List.mem_map.1 hL
      obtain ⟨_, _, -, -, h3, h4⟩ := hF i (List.mem_range.1 hi)
      exact ⟨h3, h4⟩
end
end Go.Proofs.YtdabmoekhobgiaaDoor
