/-
  Contract of laws.divisor (the greatest common divisor), and the arithmetic of two blocks that change places. Conditions: the numbers are above 0 and below 2^31.
-/
import Derived.Test.YtdabmoekhobgiaaDoorAsk
namespace Go.Proofs.YtdabmoekhobgiaaDoor
open Go.RowKit

set_option maxHeartbeats 1000000 in
theorem divisor_any (n m : Nat) (hn : n ≤ 2147483647) (hm : m ≤ 2147483647) (w : World) :
    Calls Tryd.prog 15 #[.int .i64 n, .int .i64 m] w fun e w' => e = .returned (.int .i64 (Nat.gcd n m)) ∧ ∃ q, w' = w.drewN q := by
  go_enter Tryd.func15, Tryd.ntmps15
  go_wp2
  go_loopw [0, 1] (fun s t wr => ∃ x y : Nat, s = .int .i64 x ∧ t = .int .i64 y ∧ x ≤ 2147483647 ∧ y ≤ 2147483647 ∧ Nat.gcd x y = Nat.gcd n m ∧ ∃ q, wr = w.drewN q)
    (fun _ t _ => (intOf t).toNat)
  case atStart => exact ⟨n, m, rfl, rfl, hn, hm, rfl, 0, rfl⟩
  case round =>
    obtain ⟨x, y, rfl, rfl, hx, hy, hg, q, rfl⟩ := hrel
    have HG := Lib.hid hg
    clear hg
    by_cases h0 : y = 0
    · subst h0
      have e0 : (((0 : Nat) : Int) != 0) = false := by decide
      go_wp2
      go_ret
      exact ⟨by rw [← HG.out, Nat.gcd_zero_right]; rfl, q, rfl⟩
    · have e0 : ((y : Int) != 0) = true := by simp; omega
      have h1 : 1 ≤ (y : Int) := by omega
      have h2 : x % y < y := Nat.mod_lt _ (by omega)
      go_wp2
      go_quiet (fail)
      go_wp2
      go_roundw
      case rel => exact ⟨y, x % y, rfl, by go_num, hy, by omega, by rw [← HG.out, Nat.gcd_comm x y, Nat.gcd_rec y x, Nat.gcd_comm], _, World.drewN_drewN _ _ _⟩
      case measure => simp [intOf]; omega

theorem gcd_all (n m : Nat) : Nat.gcd (n + m) m = Nat.gcd n m := by
  rw [Nat.gcd_comm, Nat.gcd_add_self_right, Nat.gcd_comm]

theorem back_dvd {a p k m : Nat} (h : (p + k * m) % a = p) : a ∣ k * m := by
  have h1 : (p + k * m) = a * ((p + k * m) / a) + p := by
    have := Nat.div_add_mod (p + k * m) a
    omega
  exact ⟨(p + k * m) / a, by omega⟩

/-- The number comes back after 'all / gcd' steps and not before. -/
theorem ring {n m p k : Nat} (hn : 1 ≤ n) (hp : p < n + m) (h1 : 1 ≤ k) (hk : k ≤ (n + m) / Nat.gcd n m) :
    (p + k * m) % (n + m) = p ↔ k = (n + m) / Nat.gcd n m := by
  have hg : 0 < Nat.gcd (n + m) m := Nat.gcd_pos_of_pos_left _ (by omega)
  have hc := Nat.coprime_div_gcd_div_gcd hg
  rw [gcd_all] at hc hg
  have da : Nat.gcd n m ∣ n + m := by have := Nat.gcd_dvd_left (n + m) m; rwa [gcd_all] at this
  have dm : Nat.gcd n m ∣ m := Nat.gcd_dvd_right _ _
  obtain ⟨a, ha⟩ := da
  obtain ⟨b, hb⟩ := dm
  have ea : (n + m) / Nat.gcd n m = a := by rw [ha, Nat.mul_div_cancel_left _ hg]
  have eb : m / Nat.gcd n m = b := Nat.div_eq_of_eq_mul_right hg hb
  rw [ea] at hc hk ⊢
  rw [eb] at hc
  constructor
  · intro h
    have hd := back_dvd h
    have h2 : a ∣ k * b := by
      rw [ha] at hd
      obtain ⟨c, hcc⟩ := hd
      refine ⟨c, ?_⟩
      have h3 : Nat.gcd n m * (k * b) = Nat.gcd n m * (a * c) := by
        calc Nat.gcd n m * (k * b) = k * (Nat.gcd n m * b) := by rw [Nat.mul_left_comm]
          _ = k * m := by rw [← hb]
          _ = Nat.gcd n m * a * c := hcc
          _ = Nat.gcd n m * (a * c) := Nat.mul_assoc _ _ _
      exact Nat.eq_of_mul_eq_mul_left hg h3
    have h3 : a ∣ k := hc.dvd_of_dvd_mul_right h2
    have := Nat.le_of_dvd (by omega) h3
    omega
  · rintro rfl
    have h2 : k * m = (n + m) * b := by
      calc k * m = k * (Nat.gcd n m * b) := by rw [← hb]
        _ = Nat.gcd n m * k * b := by rw [← Nat.mul_assoc, Nat.mul_comm k]
        _ = (n + m) * b := by rw [← ha]
    rw [h2, Nat.add_mul_mod_self_left, Nat.mod_eq_of_lt hp]

/-- One step of the ring. -/
theorem step_lo {n m p k : Nat} (h : (p + k * m) % (n + m) < n) : (p + (k + 1) * m) % (n + m) = (p + k * m) % (n + m) + m := by
  have e : p + (k + 1) * m = p + k * m + m := by rw [Nat.add_mul, Nat.one_mul]; omega
  rw [e, Nat.add_mod, ]
  generalize (p + k * m) % (n + m) = x at *
  rcases Nat.eq_zero_or_pos n with rfl | hn
  · omega
  · rw [Nat.mod_eq_of_lt (show m < n + m by omega), Nat.mod_eq_of_lt (by omega)]
theorem step_hi {n m p k : Nat} (hn : 1 ≤ n) (h : n ≤ (p + k * m) % (n + m)) : (p + (k + 1) * m) % (n + m) = (p + k * m) % (n + m) - n := by
  have e : p + (k + 1) * m = p + k * m + m := by rw [Nat.add_mul, Nat.one_mul]; omega
  have hlt : (p + k * m) % (n + m) < n + m := Nat.mod_lt _ (by omega)
  rw [e, Nat.add_mod]
  generalize (p + k * m) % (n + m) = x at *
  rw [Nat.mod_eq_of_lt (show m < n + m by omega), Nat.mod_eq_sub_mod (by omega), show x + m - (n + m) = x - n by omega, Nat.mod_eq_of_lt (by omega)]

/-- The numbers of one round. -/
theorem blocks_nums {n m p k per g : Nat} (h1 : 1 ≤ n) (h3 : n + m ≤ 65536) (hp : p < n + m) (hper : per ≤ n + m) (hlt : k < per) (hg : Nat.gcd n m = g) (hpe : (n + m) / g = per) :
    ∃ x' : Nat, x' < n + m ∧ (p + (k + 1) * m) % (n + m) = x' ∧ ((p : Int) + ((k : Int) + 1) * (m : Int)) % ((n : Int) + m) = x' ∧ 0 ≤ ((k : Int) + 1) * (m : Int) ∧ ((k : Int) + 1) * (m : Int) ≤ 4294967296 ∧
      (k + 1 = per → x' = p) ∧ (k + 1 ≠ per → x' ≠ p) := by
  have hmul : (k + 1) * m ≤ 65536 * 65536 := Nat.mul_le_mul (by omega) (by omega)
  have hc : (((k + 1) * m : Nat) : Int) = ((k : Int) + 1) * (m : Int) := by simp
  have hring := ring (p := p) (k := k + 1) h1 hp (by omega) (by rw [hg, hpe]; omega)
  rw [hg, hpe] at hring
  exact ⟨_, Nat.mod_lt _ (by omega), rfl, by simp, by omega, by omega, fun h => hring.2 h, fun h h' => h (hring.1 h')⟩

def blocks (lo n m : Nat) : List Rw := [(lo, lo + n - 1, (m : Int), (m : Int), (m : Int)), (lo + n, lo + (n + m) - 1, -(n : Int), -(n : Int), -(n : Int))]
theorem blocks_srt {lo n m : Nat} (hn : 1 ≤ n) (hm : 1 ≤ m) : Srt (blocks lo n m) := by
  refine Srt.of_next (fun i hi => ?_) (fun i hi => ?_)
  · match i, hi with
    | 0, _ => show lo ≤ lo + n - 1; omega
    | 1, _ => show lo + n ≤ lo + (n + m) - 1; omega
  · match i, hi with
    | 0, _ => show lo + n - 1 < lo + n; omega
theorem blocks_ok {lo n m : Nat} (h : lo + (n + m) ≤ 1114112) : RuneOk (blocks lo n m) := by
  intro i hi
  match i, hi with
  | 0, _ => show lo < _ ∧ lo + n - 1 < _; omega
  | 1, _ => show lo + n < _ ∧ lo + (n + m) - 1 < _; omega
theorem dlt_same (a b : Nat) (d : Int) (c : Nat) : dlt (a, b, d, d, d) c = d := by
  match c with
  | 0 => rfl
  | 1 => rfl
  | _ + 2 => rfl
theorem blocks_ask {lo n m p k c : Nat} (hn : 1 ≤ n) (hm : 1 ≤ m) (h : lo + (n + m) ≤ 1114112) :
    askM (blocks lo n m) c ((lo : Int) + ((p + k * m) % (n + m) : Nat)) = (lo : Int) + ((p + (k + 1) * m) % (n + m) : Nat) := by
  have hlt : (p + k * m) % (n + m) < n + m := Nat.mod_lt _ (by omega)
  rcases Nat.lt_or_ge ((p + k * m) % (n + m)) n with hx | hx
  · rw [step_lo hx]
    generalize (p + k * m) % (n + m) = x at *
    rw [askM_in (blocks_srt hn hm) (i := 0) (by simp [blocks]) (by show (lo : Int) ≤ _ ∧ _ ≤ ((lo + n - 1 : Nat) : Int); omega)]
    show wrap32 (cv c _ (lo, lo + n - 1, (m : Int), (m : Int), (m : Int))) = _
    unfold cv
    rw [dlt_same, if_neg (by omega), wrap32_in (by omega) (by omega)]
    omega
  · rw [step_hi hn hx]
    generalize (p + k * m) % (n + m) = x at *
    rw [askM_in (blocks_srt hn hm) (i := 1) (by simp [blocks]) (by show ((lo + n : Nat) : Int) ≤ _ ∧ _ ≤ ((lo + (n + m) - 1 : Nat) : Int); omega)]
    show wrap32 (cv c _ (lo + n, lo + (n + m) - 1, -(n : Int), -(n : Int), -(n : Int))) = _
    unfold cv
    rw [dlt_same, if_neg (by omega), wrap32_in (by omega) (by omega)]
    omega
end Go.Proofs.YtdabmoekhobgiaaDoor
