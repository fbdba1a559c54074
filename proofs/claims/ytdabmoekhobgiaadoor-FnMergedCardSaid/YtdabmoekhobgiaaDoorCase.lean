/-
  Contracts of the library's case functions over this program: unicode.lookupCaseRange, convertCase, to over any list of rows that lies in memory; To, ToUpper, ToLower, ToTitle where unicode.CaseRanges holds the library's own table. Conditions: the rows' bounds are runes; the variable holds the table.
-/
import Derived.Test.YtdabmoekhobgiaaDoorProg
import Derived.Test.YtdabmoekhobgiaaDoorPlain
import Derived.WalkKit
import Derived.Deep.LoopGhost
import Derived.Deep.DeepMust
import Derived.Deep.QuietTactic
import Derived.BigQuiet
import Derived.Laws.DeepBits32
import Derived.Lib.Hide
namespace Go.Proofs.YtdabmoekhobgiaaDoor
open Go.RowKit

/-- A row lies at ⟨b, o⟩: five cells. -/
def RowIs (w : World) (b o : Nat) (x : Rw) : Prop :=
  w.cell? ⟨b, o, none⟩ = some (.int .u32 x.1) ∧ w.cell? ⟨b, o + 1, none⟩ = some (.int .u32 x.2.1) ∧
    w.cell? ⟨b, o + 2, none⟩ = some (.int .i32 x.2.2.1) ∧ w.cell? ⟨b, o + 3, none⟩ = some (.int .i32 x.2.2.2.1) ∧ w.cell? ⟨b, o + 4, none⟩ = some (.int .i32 x.2.2.2.2)
/-- A list of rows lies from ⟨b, off⟩ on. -/
def Tab (w : World) (b off : Nat) (L : List Rw) : Prop := ∀ i, i < L.length → RowIs w b (off + i * 5) (rowAt L i)
/-- A slice's address and its rows: nothing is asked of the address of no rows. -/
def RowsAt (w : World) (A : Option Addr) (L : List Rw) : Prop := L = [] ∨ ∃ b off, A = some ⟨b, off, none⟩ ∧ b < w.heap.size ∧ Tab w b off L
/-- unicode.CaseRanges (variable 0) holds the library's table. -/
def CaseV (w : World) : Prop := ∃ R oR cap, w.cell? ⟨0, 0, none⟩ = some (.slice (some ⟨R, oR, none⟩) 336 cap) ∧ 0 < w.heap.size ∧ R < w.heap.size ∧ Tab w R oR Lib.caseT

theorem Tab.delta {w : World} {b off : Nat} {L : List Rw} (h : Tab w b off L) (i : Nat) (hi : i < L.length) : ∀ c, c < 3 → w.cell? ⟨b, off + i * 5 + 2 + c, none⟩ = some (.int .i32 (dlt (rowAt L i) c))
  | 0, _ => (h i hi).2.2.1
  | 1, _ => (h i hi).2.2.2.1
  | 2, _ => (h i hi).2.2.2.2
  | _ + 3, hc => by omega

set_option maxHeartbeats 1000000 in
set_option maxRecDepth 1000000 in
theorem lookup_any (L : List Rw) (A : Option Addr) (cap : Nat) (r : Int) (w : World) (hT : RowsAt w A L) (hok : RuneOk L) (hn : L.length ≤ 1000000000) :
    Calls Tryd.prog 57 #[.int .i32 r, .slice A L.length cap] w fun e w' =>
      e = .returned (match look L r with | some i => .pointer (A.map (·.add (i * 5))) | none => .pointer none) ∧ w = w' := by
  unfold look
  generalize hANS : lk L r (L.length + 1) 0 L.length = ANS
  go_enter Tryd.func57, Tryd.ntmps57
  go_wp2
  go_loopg [5, 6] (L.length + 1) (fun g s5 s6 wx => w = wx ∧ ∃ lo hi : Nat, s5 = .int .i64 lo ∧ s6 = .int .i64 hi ∧ lo ≤ hi ∧ hi ≤ L.length ∧ hi - lo < g ∧ lk L r g lo hi = ANS)
  case atStart => exact ⟨rfl, 0, L.length, rfl, rfl, Nat.zero_le _, Nat.le_refl _, by omega, hANS⟩
  case round =>
    obtain ⟨rfl, lo, hi, rfl, rfl, hlh, hhn, hg, hl⟩ := hrel
    clear hANS
    by_cases hlt : lo < hi
    · obtain ⟨b, off, rfl, hb, hT⟩ : ∃ b off, A = some ⟨b, off, none⟩ ∧ b < w.heap.size ∧ Tab w b off L := by
        rcases hT with rfl | h
        · simp at hhn; omega
        · exact h
      obtain ⟨g', rfl⟩ : ∃ g', gk = g' + 1 := ⟨gk - 1, by omega⟩
      have hz : (lo : Int) < (hi : Int) := by omega
      obtain ⟨m, hm⟩ : ∃ m, (lo + hi) / 2 = m := ⟨_, rfl⟩
      have hmr : lo ≤ m ∧ m < hi := by omega
      have hmz : ((lo : Int) + (hi : Int)) / 2 = (m : Int) := by omega
      obtain ⟨c0, c1, -, -, -⟩ := hT m (by omega)
      obtain ⟨o0, o1⟩ := hok m (by omega)
      simp only [lk, hlt, if_true, hm] at hl
      obtain ⟨Lo, hLo⟩ : ∃ Lo, (rowAt L m).1 = Lo := ⟨_, rfl⟩
      obtain ⟨Hi, hHi⟩ : ∃ Hi, (rowAt L m).2.1 = Hi := ⟨_, rfl⟩
      rw [hLo] at c0 o0 hl
      rw [hHi] at c1 o1 hl
      clear hT hok hLo hHi
      by_cases hin : (Lo : Int) ≤ r ∧ r ≤ (Hi : Int)
      · -- found
        rw [if_pos hin] at hl
        subst hl
        obtain ⟨h1, h2⟩ := hin
        go_wp2
        go_ret
        refine ⟨?_, rfl⟩
        simp
      · rw [if_neg hin] at hl
        by_cases hb : r < (Lo : Int)
        · rw [if_pos hb] at hl
          clear hin
          go_wp2
          go_roundg g'
          case measure => omega
          case rel => exact ⟨rfl, lo, m, rfl, rfl, by omega, by omega, by omega, hl⟩
        · rw [if_neg hb] at hl
          have h1 : (Lo : Int) ≤ r := by omega
          have h2 : ¬ (r ≤ (Hi : Int)) := fun h => hin ⟨h1, h⟩
          clear hin
          go_wp2
          go_roundg g'
          case measure => omega
          case rel => exact ⟨rfl, m + 1, hi, by first | rfl | simp, rfl, by omega, by omega, by omega, hl⟩
    · -- the search is through: nil
      have hz : ¬ ((lo : Int) < (hi : Int)) := by omega
      have hn' : lk L r gk lo hi = none := by cases gk <;> simp [lk, hlt]
      rw [hn'] at hl
      subst hl
      go_wp2
      go_ret
      exact ⟨rfl, rfl⟩

theorem add_plain (b o n : Nat) : (⟨b, o, none⟩ : Addr).add n = ⟨b, o + n, none⟩ := by
  unfold Addr.add
  by_cases h : n = 0
  · subst h; rfl
  · rw [if_neg h]

theorem and1 : ∀ c : Nat, c < 3 → wrap32 (bits .and .i64 (c : Int) 1) = ((c % 2 : Nat) : Int)
  | 0, _ => by
    have h : bits .and .i64 ((0 : Nat) : Int) 1 = 0 := by decide
    rw [h]; unfold wrap32; omega
  | 1, _ => by
    have h : bits .and .i64 ((1 : Nat) : Int) 1 = 1 := by decide
    rw [h]; unfold wrap32; omega
  | 2, _ => by
    have h : bits .and .i64 ((2 : Nat) : Int) 1 = 0 := by decide
    rw [h]; unfold wrap32; omega
  | _ + 3, h => by omega

theorem ul_eq (c : Nat) (hc : c < 3) (r : Int) (Lo : Nat) (hlo : (Lo : Int) ≤ r) (hr : r - Lo < 2147483647) :
    bits .or .i32 (bits .andNot .i32 (r - (Lo : Int)) 1) (wrap32 (bits .and .i64 (c : Int) 1)) = (r - Lo) - (r - Lo) % 2 + ((c % 2 : Nat) : Int) := by
  obtain ⟨X, hX⟩ : ∃ X : Nat, r - (Lo : Int) = (X : Int) := ⟨(r - Lo).toNat, by omega⟩
  rw [hX, i32_andNot1 X (by omega), and1 c hc, i32_or_bit (X - X % 2) (c % 2) (by omega) (by omega) (by omega)]
  omega

set_option maxHeartbeats 1000000 in
set_option maxRecDepth 1000000 in
theorem convert_any (c : Nat) (hc : c < 3) (r : Int) (b o : Nat) (x : Rw) (w : World) (hlo : (x.1 : Int) ≤ r) (hhi : r ≤ (x.2.1 : Int)) (hH : x.2.1 < 2147483647)
    (c0 : w.cell? ⟨b, o, none⟩ = some (.int .u32 x.1)) (cD : w.cell? ⟨b, o + 2 + c, none⟩ = some (.int .i32 (dlt x c))) :
    Calls Tryd.prog 58 #[.int .i64 c, .int .i32 r, .pointer (some ⟨b, o, none⟩)] w fun e w' => e = .returned (.int .i32 (wrap32 (cv c r x))) ∧ ∃ q, w' = w.drewN q := by
  have hcz : (c : Int) < 3 := by omega
  obtain ⟨Lo, hLo⟩ : ∃ Lo, x.1 = Lo := ⟨_, rfl⟩
  obtain ⟨D, hDe⟩ : ∃ D, dlt x c = D := ⟨_, rfl⟩
  unfold cv
  rw [hLo] at c0 hlo ⊢
  rw [hDe] at cD ⊢
  have hL31 : Lo < 2147483648 := by omega
  go_enter Tryd.func58, Tryd.ntmps58
  by_cases hD : (1114111 : Int) < D
  · have hu := ul_eq c hc r Lo hlo (by omega)
    go_wp2
    go_quiet (fail)
    go_wp2
    go_ret
    refine ⟨?_, _, rfl⟩
    show Ending.returned (Value.int _ _) = _
    congr 2
    unfold wrap32
    omega
  · go_wp2
    go_ret
    exact ⟨by first | rfl | (rw [if_neg (by omega)]; rfl), 0, rfl⟩

set_option maxHeartbeats 1000000 in
set_option maxRecDepth 1000000 in
theorem to_any (c : Nat) (hc : c < 3) (r : Int) (L : List Rw) (A : Option Addr) (cap : Nat) (w : World) (hT : RowsAt w A L) (hok : RuneOk L) (hn : L.length ≤ 1000000000) :
    Calls Tryd.prog 53 #[.int .i64 c, .int .i32 r, .slice A L.length cap] w fun e w' => e = .returned (.tuple #[.int .i32 (toL L c r), .bool (look L r).isSome]) ∧ ∃ q, w' = w.drewN q := by
  have cL := lookup_any L A cap r w hT hok hn
  unfold toL
  have h0 : ¬ ((c : Int) < 0) := by omega
  have h3 : ¬ ((3 : Int) ≤ (c : Int)) := by omega
  go_enter Tryd.func53, Tryd.ntmps53
  cases hi : look L r with
  | none =>
    rw [hi] at cL
    have HL := Lib.hid cL
    clear cL
    go_wp2_with (go_at_call 57; go_must (refine (HL.out).mono ?_; rintro e w' ⟨rfl, rfl⟩))
    go_ret2
    exact ⟨rfl, 0, rfl⟩
  | some i =>
    rw [hi] at cL
    obtain ⟨hil, hlo, hhi⟩ := look_some hi
    obtain ⟨b, off, rfl, hb, hT⟩ : ∃ b off, A = some ⟨b, off, none⟩ ∧ b < w.heap.size ∧ Tab w b off L := by
      rcases hT with rfl | h
      · simp at hil
      · exact h
    simp only [Option.map_some, add_plain] at cL
    have cC := convert_any c hc r b (off + i * 5) (rowAt L i) w hlo hhi (hok i hil).2 (hT i hil).1 (hT.delta i hil c hc)
    have HL := Lib.hid cL
    have HC := Lib.hid cC
    clear cL cC
    go_wp2_with (first
      | (go_at_call 57; go_must (refine (HL.out).mono ?_; rintro e w' ⟨rfl, rfl⟩))
      | (go_at_call 58; go_must (refine (HC.out).mono ?_; rintro e w' ⟨rfl, q, rfl⟩)))
    go_ret2
    exact ⟨rfl, _, rfl⟩

theorem caseV_len : Lib.caseT.length = 336 := caseT_length
set_option maxHeartbeats 1000000 in
set_option maxRecDepth 1000000 in
theorem To_any (c : Nat) (hc : c < 3) (r : Int) (w : World) (hV : CaseV w) :
    Calls Tryd.prog 54 #[.int .i64 c, .int .i32 r] w fun e w' => e = .returned (.int .i32 (toL Lib.caseT c r)) ∧ ∃ q, w' = w.drewN q := by
  obtain ⟨R, oR, cap, hg, -, hR, hT⟩ := hV
  have cT := to_any c hc r Lib.caseT (some ⟨R, oR, none⟩) cap w (.inr ⟨R, oR, rfl, hR, hT⟩) caseT_ok (by rw [caseT_length]; omega)
  rw [caseT_length] at cT
  have HT := Lib.hid cT
  clear cT hT
  generalize toL Lib.caseT c r = ans at *
  generalize (look Lib.caseT r).isSome = fnd at *
  go_enter Tryd.func54, Tryd.ntmps54
  go_wp2_with (go_at_call 53; go_must (refine (HT.out).mono ?_; rintro e w' ⟨rfl, q, rfl⟩))
  go_ret
  exact ⟨rfl, _, rfl⟩

set_option maxHeartbeats 1000000 in
set_option maxRecDepth 1000000 in
theorem ToUpper_any (r : Int) (w : World) (hV : CaseV w) :
    Calls Tryd.prog 47 #[.int .i32 r] w fun e w' => e = .returned (.int .i32 (std 0 r)) ∧ ∃ q, w' = w.drewN q := by
  have cT := Lib.hid (To_any 0 (by omega) r w hV)
  clear hV
  unfold std
  by_cases h1 : r ≤ 127
  · by_cases h2 : 97 ≤ r
    · by_cases h3 : r ≤ 122
      · go_enter Tryd.func47, Tryd.ntmps47
        go_wp2
        go_ret
        exact ⟨by simp, 0, rfl⟩
      · go_enter Tryd.func47, Tryd.ntmps47
        go_wp2
        go_ret
        exact ⟨by simp, 0, rfl⟩
    · go_enter Tryd.func47, Tryd.ntmps47
      go_wp2
      go_ret
      exact ⟨by simp, 0, rfl⟩
  · rw [if_neg h1]
    generalize toL Lib.caseT 0 r = ans at *
    go_enter Tryd.func47, Tryd.ntmps47
    go_wp2_with (go_at_call 54; go_must (refine (cT.out).mono ?_; rintro e w' ⟨rfl, q, rfl⟩))
    go_ret
    exact ⟨rfl, _, rfl⟩

set_option maxHeartbeats 1000000 in
set_option maxRecDepth 1000000 in
theorem ToLower_any (r : Int) (w : World) (hV : CaseV w) :
    Calls Tryd.prog 48 #[.int .i32 r] w fun e w' => e = .returned (.int .i32 (std 1 r)) ∧ ∃ q, w' = w.drewN q := by
  have cT := Lib.hid (To_any 1 (by omega) r w hV)
  clear hV
  unfold std
  by_cases h1 : r ≤ 127
  · by_cases h2 : 65 ≤ r
    · by_cases h3 : r ≤ 90
      · go_enter Tryd.func48, Tryd.ntmps48
        go_wp2
        go_ret
        exact ⟨by simp, 0, rfl⟩
      · go_enter Tryd.func48, Tryd.ntmps48
        go_wp2
        go_ret
        exact ⟨by simp, 0, rfl⟩
    · go_enter Tryd.func48, Tryd.ntmps48
      go_wp2
      go_ret
      exact ⟨by simp, 0, rfl⟩
  · rw [if_neg h1]
    generalize toL Lib.caseT 1 r = ans at *
    go_enter Tryd.func48, Tryd.ntmps48
    go_wp2_with (go_at_call 54; go_must (refine (cT.out).mono ?_; rintro e w' ⟨rfl, q, rfl⟩))
    go_ret
    exact ⟨rfl, _, rfl⟩

set_option maxHeartbeats 1000000 in
set_option maxRecDepth 1000000 in
theorem ToTitle_any (r : Int) (w : World) (hV : CaseV w) :
    Calls Tryd.prog 49 #[.int .i32 r] w fun e w' => e = .returned (.int .i32 (std 2 r)) ∧ ∃ q, w' = w.drewN q := by
  have cT := Lib.hid (To_any 2 (by omega) r w hV)
  clear hV
  unfold std
  by_cases h1 : r ≤ 127
  · by_cases h2 : 97 ≤ r
    · by_cases h3 : r ≤ 122
      · go_enter Tryd.func49, Tryd.ntmps49
        go_wp2
        go_ret
        exact ⟨by simp, 0, rfl⟩
      · go_enter Tryd.func49, Tryd.ntmps49
        go_wp2
        go_ret
        exact ⟨by simp, 0, rfl⟩
    · go_enter Tryd.func49, Tryd.ntmps49
      go_wp2
      go_ret
      exact ⟨by simp, 0, rfl⟩
  · rw [if_neg h1]
    generalize toL Lib.caseT 2 r = ans at *
    go_enter Tryd.func49, Tryd.ntmps49
    go_wp2_with (go_at_call 54; go_must (refine (cT.out).mono ?_; rintro e w' ⟨rfl, q, rfl⟩))
    go_ret
    exact ⟨rfl, _, rfl⟩

set_option maxHeartbeats 1000000 in
theorem implToUpper_any (r : Int) (w : World) (hV : CaseV w) :
    Calls Tryd.prog 30 #[.int .i32 r] w fun e w' => e = .returned (.int .i32 (std 0 r)) ∧ ∃ q, w' = w.drewN q := by
  have cT := Lib.hid (ToUpper_any r w hV)
  clear hV
  generalize std 0 r = ans at *
  go_enter Tryd.func30, Tryd.ntmps30
  go_wp2_with (go_at_call 47; go_must (refine (cT.out).mono ?_; rintro e w' ⟨rfl, q, rfl⟩))
  go_ret
  exact ⟨rfl, _, rfl⟩

set_option maxHeartbeats 1000000 in
theorem implToLower_any (r : Int) (w : World) (hV : CaseV w) :
    Calls Tryd.prog 31 #[.int .i32 r] w fun e w' => e = .returned (.int .i32 (std 1 r)) ∧ ∃ q, w' = w.drewN q := by
  have cT := Lib.hid (ToLower_any r w hV)
  clear hV
  generalize std 1 r = ans at *
  go_enter Tryd.func31, Tryd.ntmps31
  go_wp2_with (go_at_call 48; go_must (refine (cT.out).mono ?_; rintro e w' ⟨rfl, q, rfl⟩))
  go_ret
  exact ⟨rfl, _, rfl⟩

set_option maxHeartbeats 1000000 in
theorem implToTitle_any (r : Int) (w : World) (hV : CaseV w) :
    Calls Tryd.prog 32 #[.int .i32 r] w fun e w' => e = .returned (.int .i32 (std 2 r)) ∧ ∃ q, w' = w.drewN q := by
  have cT := Lib.hid (ToTitle_any r w hV)
  clear hV
  generalize std 2 r = ans at *
  go_enter Tryd.func32, Tryd.ntmps32
  go_wp2_with (go_at_call 49; go_must (refine (cT.out).mono ?_; rintro e w' ⟨rfl, q, rfl⟩))
  go_ret
  exact ⟨rfl, _, rfl⟩

set_option maxHeartbeats 1000000 in
theorem standard_any (z r : Int) (h0 : 0 ≤ z) (h3 : z < 3) (w : World) (hV : CaseV w) :
    Calls Tryd.prog 29 #[.int .i64 z, .int .i32 r] w fun e w' => e = .returned (.int .i32 (std z.toNat r)) ∧ ∃ q, w' = w.drewN q := by
  have hz : z = 0 ∨ z = 1 ∨ z = 2 := by omega
  rcases hz with rfl | rfl | rfl
  · have cT := Lib.hid (implToUpper_any r w hV)
    clear hV h0 h3
    show Calls _ _ _ _ fun e w' => e = .returned (.int .i32 (std 0 r)) ∧ _
    generalize std 0 r = ans at *
    go_enter Tryd.func29, Tryd.ntmps29
    go_wp2_with (go_at_call 30; go_must (refine (cT.out).mono ?_; rintro e w' ⟨rfl, q, rfl⟩))
    go_ret
    exact ⟨rfl, _, rfl⟩
  · have cT := Lib.hid (implToLower_any r w hV)
    clear hV h0 h3
    show Calls _ _ _ _ fun e w' => e = .returned (.int .i32 (std 1 r)) ∧ _
    generalize std 1 r = ans at *
    go_enter Tryd.func29, Tryd.ntmps29
    go_wp2_with (go_at_call 31; go_must (refine (cT.out).mono ?_; rintro e w' ⟨rfl, q, rfl⟩))
    go_ret
    exact ⟨rfl, _, rfl⟩
  · have cT := Lib.hid (implToTitle_any r w hV)
    clear hV h0 h3
    show Calls _ _ _ _ fun e w' => e = .returned (.int .i32 (std 2 r)) ∧ _
    generalize std 2 r = ans at *
    go_enter Tryd.func29, Tryd.ntmps29
    go_wp2_with (go_at_call 32; go_must (refine (cT.out).mono ?_; rintro e w' ⟨rfl, q, rfl⟩))
    go_ret
    exact ⟨rfl, _, rfl⟩

theorem CaseV.drewN {w : World} (h : CaseV w) (q : Nat) : CaseV (w.drewN q) := h

set_option maxHeartbeats 1000000 in
set_option maxRecDepth 1000000 in
theorem specialToUpper_any (r : Int) (L : List Rw) (A : Option Addr) (cap : Nat) (w : World) (hV : CaseV w) (hT : RowsAt w A L) (hok : RuneOk L) (hn : L.length ≤ 1000000000) :
    Calls Tryd.prog 41 #[.slice A L.length cap, .int .i32 r] w fun e w' => e = .returned (.int .i32 (askM L 0 r)) ∧ ∃ q, w' = w.drewN q := by
  have cT := to_any 0 (by omega) r L A cap w hT hok hn
  have cU := Lib.hid (fun q => ToUpper_any r (w.drewN q) (hV.drewN q))
  unfold askM
  unfold toL at cT
  clear hV hT
  generalize L.length = n at *
  cases hi : look L r with
  | none =>
    rw [hi] at cT
    have HT := Lib.hid cT
    clear cT hi hok hn
    generalize std 0 r = ans at *
    go_enter Tryd.func41, Tryd.ntmps41
    go_wp2_with (first
      | (go_at_call 53; go_must (refine (HT.out).mono ?_; rintro e w' ⟨rfl, q, rfl⟩))
      | (go_at_call 47; go_must (refine (cU.out _).mono ?_; rintro e w' ⟨rfl, q, rfl⟩)))
    go_ret
    exact ⟨rfl, _, rfl⟩
  | some i =>
    rw [hi] at cT
    dsimp only at cT ⊢
    have HT := Lib.hid cT
    clear cT hi hok hn cU
    generalize wrap32 (cv 0 r (rowAt L i)) = ans at *
    go_enter Tryd.func41, Tryd.ntmps41
    by_cases he : ans = r
    · subst he
      go_wp2_with (go_at_call 53; go_must (refine (HT.out).mono ?_; rintro e w' ⟨rfl, q, rfl⟩))
      go_ret
      exact ⟨rfl, _, rfl⟩
    · have he' : (ans == r) = false := by simpa using he
      clear he
      go_wp2_with (go_at_call 53; go_must (refine (HT.out).mono ?_; rintro e w' ⟨rfl, q, rfl⟩))
      go_ret
      exact ⟨rfl, _, rfl⟩

set_option maxHeartbeats 1000000 in
set_option maxRecDepth 1000000 in
theorem specialToLower_any (r : Int) (L : List Rw) (A : Option Addr) (cap : Nat) (w : World) (hV : CaseV w) (hT : RowsAt w A L) (hok : RuneOk L) (hn : L.length ≤ 1000000000) :
    Calls Tryd.prog 42 #[.slice A L.length cap, .int .i32 r] w fun e w' => e = .returned (.int .i32 (askM L 1 r)) ∧ ∃ q, w' = w.drewN q := by
  have cT := to_any 1 (by omega) r L A cap w hT hok hn
  have cU := Lib.hid (fun q => ToLower_any r (w.drewN q) (hV.drewN q))
  unfold askM
  unfold toL at cT
  clear hV hT
  generalize L.length = n at *
  cases hi : look L r with
  | none =>
    rw [hi] at cT
    have HT := Lib.hid cT
    clear cT hi hok hn
    generalize std 1 r = ans at *
    go_enter Tryd.func42, Tryd.ntmps42
    go_wp2_with (first
      | (go_at_call 53; go_must (refine (HT.out).mono ?_; rintro e w' ⟨rfl, q, rfl⟩))
      | (go_at_call 48; go_must (refine (cU.out _).mono ?_; rintro e w' ⟨rfl, q, rfl⟩)))
    go_ret
    exact ⟨rfl, _, rfl⟩
  | some i =>
    rw [hi] at cT
    dsimp only at cT ⊢
    have HT := Lib.hid cT
    clear cT hi hok hn cU
    generalize wrap32 (cv 1 r (rowAt L i)) = ans at *
    go_enter Tryd.func42, Tryd.ntmps42
    by_cases he : ans = r
    · subst he
      go_wp2_with (go_at_call 53; go_must (refine (HT.out).mono ?_; rintro e w' ⟨rfl, q, rfl⟩))
      go_ret
      exact ⟨rfl, _, rfl⟩
    · have he' : (ans == r) = false := by simpa using he
      clear he
      go_wp2_with (go_at_call 53; go_must (refine (HT.out).mono ?_; rintro e w' ⟨rfl, q, rfl⟩))
      go_ret
      exact ⟨rfl, _, rfl⟩

set_option maxHeartbeats 1000000 in
set_option maxRecDepth 1000000 in
theorem specialToTitle_any (r : Int) (L : List Rw) (A : Option Addr) (cap : Nat) (w : World) (hV : CaseV w) (hT : RowsAt w A L) (hok : RuneOk L) (hn : L.length ≤ 1000000000) :
    Calls Tryd.prog 46 #[.slice A L.length cap, .int .i32 r] w fun e w' => e = .returned (.int .i32 (askM L 2 r)) ∧ ∃ q, w' = w.drewN q := by
  have cT := to_any 2 (by omega) r L A cap w hT hok hn
  have cU := Lib.hid (fun q => ToTitle_any r (w.drewN q) (hV.drewN q))
  unfold askM
  unfold toL at cT
  clear hV hT
  generalize L.length = n at *
  cases hi : look L r with
  | none =>
    rw [hi] at cT
    have HT := Lib.hid cT
    clear cT hi hok hn
    generalize std 2 r = ans at *
    go_enter Tryd.func46, Tryd.ntmps46
    go_wp2_with (first
      | (go_at_call 53; go_must (refine (HT.out).mono ?_; rintro e w' ⟨rfl, q, rfl⟩))
      | (go_at_call 49; go_must (refine (cU.out _).mono ?_; rintro e w' ⟨rfl, q, rfl⟩)))
    go_ret
    exact ⟨rfl, _, rfl⟩
  | some i =>
    rw [hi] at cT
    dsimp only at cT ⊢
    have HT := Lib.hid cT
    clear cT hi hok hn cU
    generalize wrap32 (cv 2 r (rowAt L i)) = ans at *
    go_enter Tryd.func46, Tryd.ntmps46
    by_cases he : ans = r
    · subst he
      go_wp2_with (go_at_call 53; go_must (refine (HT.out).mono ?_; rintro e w' ⟨rfl, q, rfl⟩))
      go_ret
      exact ⟨rfl, _, rfl⟩
    · have he' : (ans == r) = false := by simpa using he
      clear he
      go_wp2_with (go_at_call 53; go_must (refine (HT.out).mono ?_; rintro e w' ⟨rfl, q, rfl⟩))
      go_ret
      exact ⟨rfl, _, rfl⟩

end Go.Proofs.YtdabmoekhobgiaaDoor
