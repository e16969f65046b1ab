import Derived.Test.Qxb6617592aRows
import Derived.WalkKit
import Derived.WalkSpells
import Derived.WalkLawsBesides
import Derived.CellFam
import Derived.Deep.QuietTactic
import Derived.BigQuiet
namespace Go.Proofs.Qxb6617592a
open Go.RowKit

/-- 'q.Less(i, j)' over a queue whose metrics are M. -/
theorem less_any (g n c : Nat) (M : Nat → Int) (i j : Nat) (hi : i < n) (hj : j < n) (w : World)
    (hc : ∀ t, t < n → w.cell? ⟨g, t * 2 + 1, none⟩ = some (.int .i64 (M t))) :
    Calls Try.prog 7 #[.slice (some ⟨g, 0, none⟩) n c, .int .i64 i, .int .i64 j] w fun e w' => e = .returned (.bool (decide (M i < M j))) ∧ ∃ q, w' = w.drewN q := by
  have c1 := hc i hi
  have c2 := hc j hj
  go_enter Try.func7, Try.ntmps7
  go_wp2
  go_quiet (fail)
  go_wp2
  go_ret
  exact ⟨rfl, _, rfl⟩

/-- The exported hand-on. -/
theorem zzless_any (g n c : Nat) (M : Nat → Int) (i j : Nat) (hi : i < n) (hj : j < n) (w : World)
    (hc : ∀ t, t < n → w.cell? ⟨g, t * 2 + 1, none⟩ = some (.int .i64 (M t))) :
    Calls Try.prog 6 #[.slice (some ⟨g, 0, none⟩) n c, .int .i64 i, .int .i64 j] w fun e w' => e = .returned (.bool (decide (M i < M j))) ∧ ∃ q, w' = w.drewN q := by
  go_enter Try.func6, Try.ntmps6
  go_wp2_with (go_at_call 7; refine (less_any g n c M i j hi hj _ hc).mono ?_; rintro e w' ⟨rfl, q, rfl⟩)
  go_ret
  exact ⟨rfl, _, rfl⟩

/-- The bound on the total length. -/
theorem bytes_any (a0 a1 : Option Addr) (n0 c0 n1 c1 : Nat) (h0 : n0 ≤ maxLen) (h1 : n1 ≤ maxLen) (w : World) :
    Calls Try.prog 4 #[.slice a0 n0 c0, .slice a1 n1 c1] w fun e w' => (∃ b : Bool, e = .returned (.bool b)) ∧ w = w' := by
  unfold maxLen at h0 h1
  go_enter Try.func4, Try.ntmps4
  go_wp2
  all_goals (go_ret; exact ⟨⟨_, rfl⟩, rfl⟩)

end Go.Proofs.Qxb6617592a
