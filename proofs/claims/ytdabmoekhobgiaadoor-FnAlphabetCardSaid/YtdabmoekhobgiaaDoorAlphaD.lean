/-
  The walk of laws.FnAlphabet: it returns true for every input. Conditions: the slice of steps lies in memory; unicode.CaseRanges holds the library's table.
-/
import Derived.Test.YtdabmoekhobgiaaDoorAlphaB
import Derived.Test.YtdabmoekhobgiaaDoorAlphaC
namespace Go.Proofs.YtdabmoekhobgiaaDoor
open Go.RowKit

set_option maxHeartbeats 8000000 in
set_option maxRecDepth 1000000 in
/-- The ways on which the law says nothing. -/
theorem alpha_out (a b n r : Int) (A : Option Addr) (len cap : Nat) (w : World) (h : a < 0 ∨ (0 ≤ a ∧ b < 0) ∨ (0 ≤ a ∧ 0 ≤ b ∧ n < 1) ∨ (0 ≤ a ∧ 0 ≤ b ∧ 1 ≤ n ∧ 1114111 < n) ∨ (0 ≤ a ∧ 0 ≤ b ∧ 1 ≤ n ∧ n ≤ 1114111 ∧ a ≤ 2147483647 ∧ 1114112 < a + n) ∨
      (0 ≤ a ∧ 0 ≤ b ∧ 1 ≤ n ∧ n ≤ 1114111 ∧ a + n ≤ 1114112 ∧ b ≤ 2147483647 ∧ 1114112 < b + n) ∨ (0 ≤ a ∧ 0 ≤ b ∧ 1 ≤ n ∧ n ≤ 1114111 ∧ a + n ≤ 1114112 ∧ b + n ≤ 1114112 ∧ a < b + n ∧ b < a + n)) :
    Calls Tryd.prog 13 #[.int .i32 a, .int .i32 b, .int .i64 n, .slice A len cap, .int .i32 r] w fun e w' => e = .returned (.bool true) ∧ Below w.heap.size w w' := by
  rcases h with h | ⟨h1, h2⟩ | ⟨h1, h2, h3⟩ | ⟨h1, h2, h3, h4⟩ | ⟨h1, h2, h3, h4, h5, h6⟩ | ⟨h1, h2, h3, h4, h5, h6, h7⟩ | ⟨h1, h2, h3, h4, h5, h6, h7, h8⟩
  all_goals
    go_enter Tryd.func13, Tryd.ntmps13
    go_wp2
    go_ret
    exact ⟨rfl, Below.refl _ _⟩

namespace fnAlphabet
theorem law (a b n : Int) (A : Option Addr) (len cap : Nat) (zs : List Int) (r : Int) (w : World) (hV : CaseV w) (b0 : -2147483648 ≤ a ∧ a ≤ 2147483647) (b1 : -2147483648 ≤ b ∧ b ≤ 2147483647) (_ : -9223372036854775808 ≤ n ∧ n ≤ 9223372036854775807)
    (hS : IntsAt w A zs) (hz : zs.length = len) (hl : len ≤ 9223372036854775807) (b4 : -2147483648 ≤ r ∧ r ≤ 2147483647) :
    Calls Tryd.prog 13 #[.int .i32 a, .int .i32 b, .int .i64 n, .slice A len cap, .int .i32 r] w fun e w' => e = .returned (.bool true) ∧ Below w.heap.size w w' := by
  rcases Int.lt_or_le a 0 with h1 | h1
  · exact alpha_out a b n r A len cap w (.inl h1)
  rcases Int.lt_or_le b 0 with h2 | h2
  · exact alpha_out a b n r A len cap w (.inr (.inl ⟨h1, h2⟩))
  rcases Int.lt_or_le n 1 with h3 | h3
  · exact alpha_out a b n r A len cap w (.inr (.inr (.inl ⟨h1, h2, h3⟩)))
  rcases Int.lt_or_le 1114111 n with h4 | h4
  · exact alpha_out a b n r A len cap w (.inr (.inr (.inr (.inl ⟨h1, h2, h3, h4⟩))))
  rcases Int.lt_or_le 1114112 (a + n) with h5 | h5
  · exact alpha_out a b n r A len cap w (.inr (.inr (.inr (.inr (.inl ⟨h1, h2, h3, h4, b0.2, h5⟩)))))
  rcases Int.lt_or_le 1114112 (b + n) with h6 | h6
  · exact alpha_out a b n r A len cap w (.inr (.inr (.inr (.inr (.inr (.inl ⟨h1, h2, h3, h4, h5, b1.2, h6⟩))))))
  obtain ⟨a', rfl⟩ := Int.eq_ofNat_of_zero_le h1
  obtain ⟨b', rfl⟩ := Int.eq_ofNat_of_zero_le h2
  obtain ⟨n', rfl⟩ := Int.eq_ofNat_of_zero_le (show 0 ≤ n by omega)
  rcases Int.lt_or_le (a' : Int) (b' + n') with h7 | h7
  · rcases Int.lt_or_le (b' : Int) (a' + n') with h8 | h8
    · exact alpha_out a' b' n' r A len cap w (.inr (.inr (.inr (.inr (.inr (.inr ⟨h1, h2, h3, h4, h5, h6, h7, h8⟩))))))
    · rcases Int.lt_or_le r a' with r1 | r1
      · exact alpha_N4 a' b' n' r zs A len cap w hV hS hl hz b4.1 b4.2 (by omega) (by omega) (by omega) (by omega) r1
      rcases Int.lt_or_le r (a' + n') with r2 | r2
      · exact alpha_A2 a' b' n' r zs A len cap w hV hS hl hz b4.1 b4.2 (by omega) (by omega) (by omega) (by omega) ⟨r1, r2⟩
      rcases Int.lt_or_le r b' with r3 | r3
      · exact alpha_N5 a' b' n' r zs A len cap w hV hS hl hz b4.1 b4.2 (by omega) (by omega) (by omega) (by omega) ⟨r2, r3⟩
      rcases Int.lt_or_le r (b' + n') with r4 | r4
      · exact alpha_B2 a' b' n' r zs A len cap w hV hS hl hz b4.1 b4.2 (by omega) (by omega) (by omega) (by omega) ⟨r3, r4⟩
      · exact alpha_N6 a' b' n' r zs A len cap w hV hS hl hz b4.1 b4.2 (by omega) (by omega) (by omega) (by omega) r4
  · rcases Int.lt_or_le r b' with r1 | r1
    · exact alpha_N1 a' b' n' r zs A len cap w hV hS hl hz b4.1 b4.2 (by omega) (by omega) (by omega) (by omega) r1
    rcases Int.lt_or_le r (b' + n') with r2 | r2
    · exact alpha_B1 a' b' n' r zs A len cap w hV hS hl hz b4.1 b4.2 (by omega) (by omega) (by omega) (by omega) ⟨r1, r2⟩
    rcases Int.lt_or_le r a' with r3 | r3
    · exact alpha_N2 a' b' n' r zs A len cap w hV hS hl hz b4.1 b4.2 (by omega) (by omega) (by omega) (by omega) ⟨r2, r3⟩
    rcases Int.lt_or_le r (a' + n') with r4 | r4
    · exact alpha_A1 a' b' n' r zs A len cap w hV hS hl hz b4.1 b4.2 (by omega) (by omega) (by omega) (by omega) ⟨r3, r4⟩
    · exact alpha_N3 a' b' n' r zs A len cap w hV hS hl hz b4.1 b4.2 (by omega) (by omega) (by omega) (by omega) r4
end fnAlphabet
end Go.Proofs.YtdabmoekhobgiaaDoor
