import Derived.Test.Qxb6617592aMain
namespace Go.Proofs.Qxb6617592a
open Go.RowKit

set_option maxRecDepth 1000000 in
set_option maxHeartbeats 1000000 in
/-- Too long, or of unlike lengths: true at once. -/
theorem main_exit (a0 a1 : Option Addr) (n0 c0 n1 c1 : Nat) (hn0 : n0 ≤ maxLen) (hn1 : n1 ≤ maxLen) (h : 1024 < n0 ∨ 1024 < n1 ∨ n0 ≠ n1) (w : World) :
    Calls Try.prog 3 #[.slice a0 n0 c0, .slice a1 n1 c1] w fun e w' => e = .returned (.bool true) ∧ Below w.heap.size w w' := by
  by_cases e0 : 1024 < n0
  · have g0 : (1024 : Int) < (n0 : Int) := by omega
    go_enter Try.func3, Try.ntmps3
    go_wp2_with (go_at_call 4; refine (bytes_any _ _ _ _ _ _ hn0 hn1 _).mono ?_; rintro e w' ⟨⟨b, rfl⟩, rfl⟩)
    all_goals (go_ret; exact ⟨rfl, Below.refl _ _⟩)
  · by_cases e1 : 1024 < n1
    · have g0 : ¬ (1024 : Int) < (n0 : Int) := by omega
      have g1 : (1024 : Int) < (n1 : Int) := by omega
      go_enter Try.func3, Try.ntmps3
      go_wp2_with (go_at_call 4; refine (bytes_any _ _ _ _ _ _ hn0 hn1 _).mono ?_; rintro e w' ⟨⟨b, rfl⟩, rfl⟩)
      all_goals (go_ret; exact ⟨rfl, Below.refl _ _⟩)
    · have g0 : ¬ (1024 : Int) < (n0 : Int) := by omega
      have g1 : ¬ (1024 : Int) < (n1 : Int) := by omega
      have g2 : ((n0 : Int) != (n1 : Int)) = true := by simp; omega
      clear h
      go_enter Try.func3, Try.ntmps3
      go_wp2_with (go_at_call 4; refine (bytes_any _ _ _ _ _ _ hn0 hn1 _).mono ?_; rintro e w' ⟨⟨b, rfl⟩, rfl⟩)
      all_goals (go_ret; exact ⟨rfl, Below.refl _ _⟩)

end Go.Proofs.Qxb6617592a
