/-
  Words of runes opened. Conditions: those of the given rows.
-/
import Derived.Test.YtdabmoekhobgiaaDoorFrameB
import Derived.Test.YtdabmoekhobgiaaDoorScriptA
namespace Go.Proofs.YtdabmoekhobgiaaDoor
open Go.ChangeShapes Go.WideShapes Go.ChangeAt Go.RowKit

theorem open_word {H : Type} {enc : TypeId × Value → H} {w : World} {base : Nat} {sp : Nat → Bool} {held : Bool} {fuel : Nat} {v : Value} {d : DataW H} {p : List MemPlace} (h : DataW.trod enc Tryd.prog w base sp held fuel 52 [v] = some (d, p)) :
    ∃ A len cap zs, v = .slice A len cap ∧ RunesAt w A zs ∧ zs.length = len ∧ (∀ z ∈ zs, -2147483648 ≤ z ∧ z ≤ 2147483647) ∧ (len = 0 ∨ ∃ es rest, d = .slice es rest ∧ es.length = len) := by
  obtain ⟨A, len, cap, zs, hv, h1, h2, -, h4, h5⟩ := open_ints_of Tryd.underlying52 Tryd.underlying21 cells21 h
  exact ⟨A, len, cap, zs, hv, h1, h2, fun z hz => wf_i32 (h4 z hz), h5⟩
end Go.Proofs.YtdabmoekhobgiaaDoor
