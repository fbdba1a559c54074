/-
  Words of runes in memory; the contract of slices.Clone at words; what spec.Mapped answers is what a valid list does. Conditions: the word lies in memory and is short enough to be copied.
-/
import Derived.Test.YtdabmoekhobgiaaDoorThru
namespace Go.Proofs.YtdabmoekhobgiaaDoor
open Go.RowKit

/-- A word of runes in memory. -/
def RunesAt (w : World) (A : Option Addr) (zs : List Int) : Prop :=
  zs = [] ∨ ∃ b off, A = some ⟨b, off, none⟩ ∧ b < w.heap.size ∧ ∀ i, i < zs.length → w.cell? ⟨b, off + i, none⟩ = some (.int .i32 (zs.getD i 0))
theorem RunesAt.below {w w' : World} {A : Option Addr} {zs : List Int} (h : RunesAt w A zs) {B : Nat} (hb : Below B w w') (hB : w.heap.size ≤ B) : RunesAt w' A zs := by
  rcases h with h | ⟨b, off, hA, hlt, hT⟩
  · exact .inl h
  · exact .inr ⟨b, off, hA, Nat.lt_of_lt_of_le hlt hb.size, fun j hj => (hb.cell (p := ⟨b, off + j, none⟩) (Nat.lt_of_lt_of_le hlt hB)).trans (hT j hj)⟩
def runeCells (zs : List Int) : List Value := zs.map (Value.int .i32)
theorem runeCells_length (zs : List Int) : (runeCells zs).length = zs.length := by simp [runeCells]
theorem runeCells_one (zs : List Int) : ∀ u ∈ runeCells zs, u.oneCell' = true := by
  intro u hu
  obtain ⟨z, _, rfl⟩ := List.mem_map.1 hu
  rfl
theorem RunesAt.cells {w : World} {ad : Addr} {zs : List Int} (h : RunesAt w (some ad) zs) : ∀ j u, (runeCells zs)[j]? = some u → w.cell? (ad.add j) = some u := by
  rcases h with rfl | ⟨b, off, e, hb, hT⟩
  · intro j u hu
    simp [runeCells] at hu
  · cases e
    intro j u hu
    have hj : j < zs.length := by
      have := (List.getElem?_eq_some_iff.1 hu).1
      rwa [runeCells_length] at this
    rw [add_plain, hT j hj]
    unfold runeCells at hu
    rw [List.getElem?_map, List.getElem?_eq_getElem hj] at hu
    rw [List.getD_eq_getElem?_getD, List.getElem?_eq_getElem hj]
    exact hu

theorem own_kept {w w' : World} {base : Nat} {e : TypeId} {size : Nat} {v : Value} {n : Nat} {xs : List Value} (h : w.ownsRow base e size v n xs) (hb : Below w.heap.size w w') : w'.ownsRow base e size v n xs :=
  h.kept (row := none) ⟨hb.os, hb.tape, hb.output, hb.size, fun i hi _ => hb.block i hi⟩ (by cases v.ownBlock <;> simp)

theorem info21 : (Tryd.prog.info? 21).map (fun i => (i.zero, i.size, i.bytes)) = some (some (.int .i32 0), 1, 4) := by kernel_rfl

set_option maxHeartbeats 1000000 in
set_option maxRecDepth 1000000 in
theorem cloneW_any (zs : List Int) (A : Option Addr) (n cap : Nat) (w : World) (hT : RunesAt w A zs) (hn : zs.length = n) (hlen : n * 4 ≤ 140737488355328) :
    Calls Tryd.prog 34 #[.slice A n cap] w fun e w' => ∃ v, e = .returned v ∧ w'.ownsRow w.heap.size 21 1 v n (runeCells zs) ∧ Below w.heap.size w w' := by
  have hq := fun (w : World) (a : Option Addr) (n c : Nat) => Lib.run_eql_slice_nil (P := Tryd.prog) w 52 21 a n c 0 0 Tryd.underlying52
  rcases A with _ | ad
  · have hL : zs = [] := by
      rcases hT with h | ⟨b, off, h, _⟩
      · exact h
      · cases h
    subst hL
    have hn0 : n = 0 := by simpa using hn.symm
    subst hn0
    clear hT hlen hn
    go_enter Tryd.func34, Tryd.ntmps34
    go_wp2
    go_ret
    exact ⟨_, rfl, World.ownsRow_nil _ _ _ _, Below.refl _ _⟩
  · obtain ⟨i0, hi, hz0, hz1, hz2⟩ := info_parts info21
    have hcells := Lib.hid hT.cells
    have hone := Lib.hid (runeCells_one zs)
    have hcl := Lib.hid (show (runeCells zs).length = n * 1 by rw [runeCells_length, hn, Nat.mul_one])
    clear hT hn
    go_enter Tryd.func34, Tryd.ntmps34
    go_wp2_with (at_builtin; refine wpList_append_own _ rfl _ _ 52 rfl w.heap.size 21 i0 _ 1 4 Tryd.underlying52 hi hz0 hz1 hz2 rfl (by decide) _ 0 [] rfl (World.ownsRow_lit w #[] 0 (Nat.le_refl _) (by simp [maxLen]) rfl) ad n cap (runeCells zs) rfl hcl.out ?c1 hone.out ?c3 ?c4 ?c5 ?_)
    case c1 =>
      intro j u hu
      have h := hcells.out j u hu
      rw [World.cell?_alloc_lt]
      · exact h
      · rcases Nat.lt_or_ge (ad.add j).block w.heap.size with hlt | hge
        · exact hlt
        · unfold World.cell? at h
          rw [Array.getElem?_eq_none hge] at h
          cases h
    case c3 => unfold maxLen; omega
    case c4 => omega
    case c5 => simp
    intro v' w1 hown' hgrow _
    have hbl1 : Below w.heap.size w w1 := ((Below.refl _ _).alloc (Nat.le_refl _) _).grown hgrow (by simp) (fun g hg => by simp [Value.ownBlock] at hg; omega)
    have HO := Lib.hid hown'
    have HB := Lib.hid hbl1
    clear hown' hgrow hbl1 hcells hone hcl
    go_wp2
    go_ret
    exact ⟨_, rfl, HO.out, HB.out⟩

/-- THE PLAIN LAW: the reference's answer at a range that has the number is the list's. -/
theorem mapRow_ask {L : List Rw} (hv : validB L = true) {r : Int} {i : Nat} (hi : i < L.length) (hr : hasR (rowAt L i) r) {c : Nat} (hc : c < 3) : mapRow (rowAt L i) c r = askM L c r := by
  have hrow := valid_row hv hi
  have hb := okRow_bounds hrow
  rw [(valid_ask hv hi hr c).1]
  have hcv := okRow_cv hrow hr c
  unfold hasR at hr
  unfold mapRow
  cases ht : turnsB (rowAt L i) with
  | true =>
    have hd := turnsB_dlt ht c
    have hp := okRow_par hrow ht
    have e : cv c r (rowAt L i) = ((rowAt L i).1 : Int) + ((r - (rowAt L i).1) - (r - (rowAt L i).1) % 2 + (c % 2 : Nat)) := by
      unfold cv
      rw [hd, if_pos (by omega)]
    rw [e] at hcv ⊢
    rw [if_pos rfl]
    by_cases h1 : c = 1
    · subst h1
      rw [if_pos rfl, wrap32_in (by omega) (by omega)]
      omega
    · rw [if_neg h1]
      omega
  | false =>
    have hd := leads_dlt (okRow_leads hrow ht) c
    have e : cv c r (rowAt L i) = r + dlt (rowAt L i) c := by
      unfold cv
      rw [if_neg (by omega)]
    rw [e] at hcv ⊢
    rw [if_neg Bool.false_ne_true, wrap32_in (by omega) (by omega)]
end Go.Proofs.YtdabmoekhobgiaaDoor
