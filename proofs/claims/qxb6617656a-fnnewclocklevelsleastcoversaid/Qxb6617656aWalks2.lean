import Derived.Test.Qxb6617656aRows
import Derived.WalkKit
import Derived.WalkSpells
import Derived.WalkLawsBesides
import Derived.Deep.QuietTactic
import Derived.BigQuiet
namespace Go.Proofs.Qxb6617656a
open Go.RowKit
set_option linter.unusedVariables false

/-- 8 to the power k. -/
def p8 : Nat → Int
  | 0 => 1
  | k + 1 => p8 k * 8

theorem p8_pos (k : Nat) : 1 ≤ p8 k := by
  induction k with
  | zero => simp [p8]
  | succ k ih => simp only [p8]; omega

theorem p8_le {a b : Nat} (h : a ≤ b) : p8 a ≤ p8 b := by
  induction h with
  | refl => exact Int.le_refl _
  | step _ ih => have := p8_pos a; simp only [p8]; omega

theorem p8_lt {a b : Nat} (h : a < b) : p8 a < p8 b := by
  have h1 := p8_le (show a + 1 ≤ b from h)
  have := p8_pos a
  simp only [p8] at h1
  omega

theorem p8_11 : p8 11 = 8589934592 := by decide

/-- How many levels: L is the least number from 1 on with n at most 8 to the power L. -/
def Lev (n : Int) (L : Nat) : Prop := 1 ≤ L ∧ L ≤ 11 ∧ n ≤ p8 L ∧ (1 < L → p8 (L - 1) < n)

theorem pow_any (k : Nat) (hk : k ≤ 11) (w : World) :
    Calls Try.prog 7 #[.int .i64 k] w fun e w' => e = .returned (.int .i64 (p8 k)) ∧ w = w' := by
  go_enter Try.func7, Try.ntmps7
  go_wp2
  go_loop [3, 4] (fun p i => ∃ j : Nat, j ≤ k ∧ i = .int .i64 j ∧ p = .int .i64 (p8 j)) (fun _ i => k - (intOf i).toNat)
  case atStart => exact ⟨0, Nat.zero_le _, rfl, rfl⟩
  case round =>
    obtain ⟨j, hj, rfl, rfl⟩ := hrel
    have b1 := p8_pos j
    have b2 := p8_le (show j ≤ 11 by omega)
    rw [p8_11] at b2
    by_cases hlt : j < k
    · go_wp2
      go_round
      case rel => exact ⟨j + 1, by omega, by go_num, rfl⟩
      case measure => simp [intOf]; omega
    · obtain rfl : j = k := by omega
      go_wp2
      go_ret
      exact ⟨rfl, rfl⟩

theorem clock_any (n : Int) (h1 : -9223372036854775808 ≤ n) (h2 : n ≤ 1073741824) (w : World) :
    Calls Try.prog 6 #[.int .i64 n] w fun e w' => (∃ L : Nat, e = .returned (.agg #[.pointer none, .int .i64 L]) ∧ Lev n L) ∧ Below w.heap.size w w' := by
  go_enter Try.func6, Try.ntmps6
  go_wp2
  go_loop [3, 4] (fun l sp => ∃ L : Nat, 1 ≤ L ∧ L ≤ 11 ∧ l = .int .i64 L ∧ sp = .int .i64 (p8 L) ∧ (1 < L → p8 (L - 1) < n)) (fun l _ => 11 - (intOf l).toNat)
  case atStart => exact ⟨1, by omega, by omega, rfl, rfl, fun h => by omega⟩
  case round =>
    obtain ⟨L, hL1, hL2, rfl, rfl, hlow⟩ := hrel
    have HL : Hid (1 < L → p8 (L - 1) < n) := hlow
    clear hlow
    have b1 := p8_pos L
    have b2 := p8_le hL2
    rw [p8_11] at b2
    by_cases hlt : p8 L < n
    · have hL3 : L < 11 := by
        rcases Nat.lt_or_ge L 11 with h | h
        · exact h
        · have := p8_le h; rw [p8_11] at this; omega
      go_wp2
      go_round
      case rel => exact ⟨L + 1, by omega, by omega, by go_num, rfl, fun _ => by simpa using hlt⟩
      case measure => simp [intOf]; omega
    · go_wp2
      exact bodyPost_ret (v := .agg #[.pointer none, .int .i64 L]) (by simp [results, Try.results6, go_sem]) rfl ⟨⟨L, rfl, hL1, hL2, by omega, HL.out⟩, (Below.refl _ _).alloc (Nat.le_refl _) _⟩

theorem zz_any (n : Int) (h1 : -9223372036854775808 ≤ n) (h2 : n ≤ 1073741824) (w : World) :
    Calls Try.prog 4 #[.int .i64 n] w fun e w' => (∃ L : Nat, e = .returned (.tuple #[.bool true, .int .i64 L]) ∧ Lev n L) ∧ Below w.heap.size w w' := by
  go_enter Try.func4, Try.ntmps4
  go_wp2_with (go_at_call 6; refine (clock_any n h1 h2 _).mono ?_; rintro e w1 ⟨⟨L, rfl, hL⟩, hb⟩)
  go_quiet (fail)
  go_wp2
  go_ret2
  exact ⟨⟨L, rfl, hL⟩, below_drewN (hb.alloc hb.size _) _⟩

theorem covers_any (n : Int) (L : Nat) (hL : Lev n L) (w : World) :
    Calls Try.prog 5 #[.int .i64 n, .int .i64 L] w fun e w' => e = .returned (.bool true) ∧ w = w' := by
  obtain ⟨k1, k2, k3, k4⟩ := hL
  have g1 : ¬ ((L : Int) < 1) := by omega
  have g1' : decide ((L : Int) < 1) = false := decide_eq_false g1
  have g3 : ¬ (p8 L < n) := by omega
  by_cases h : 1 < L
  · have g4 := k4 h
    have e : ((L - 1 : Nat) : Int) = (L : Int) - 1 := by omega
    have hp := pow_any (L - 1) (by omega) w
    rw [e] at hp
    clear k4
    go_enter Try.func5, Try.ntmps5
    go_wp2_with (first | (go_at_call 7; (with_reducible refine (pow_any L k2 _).mono ?_); rintro e w1 ⟨rfl, rfl⟩) | (go_at_call 7; (with_reducible refine hp.mono ?_); rintro e w1 ⟨rfl, rfl⟩))
    go_ret
    exact ⟨rfl, rfl⟩
  · have g4 : decide (1 < (L : Int)) = false := decide_eq_false (by omega)
    clear k4
    go_enter Try.func5, Try.ntmps5
    go_wp2_with (go_at_call 7; (with_reducible refine (pow_any L k2 _).mono ?_); rintro e w1 ⟨rfl, rfl⟩)
    go_ret
    exact ⟨rfl, rfl⟩

end Go.Proofs.Qxb6617656a
