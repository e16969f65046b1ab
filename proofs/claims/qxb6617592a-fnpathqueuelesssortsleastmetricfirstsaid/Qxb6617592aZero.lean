import Derived.Test.Qxb6617592aEnds
namespace Go.Proofs.Qxb6617592a
open Go.RowKit

set_option maxRecDepth 1000000 in
set_option maxHeartbeats 1000000 in
/-- No element. -/
theorem main_zero (a0 a1 : Option Addr) (c0 c1 : Nat) (w : World) :
    Calls Try.prog 3 #[.slice a0 0 c0, .slice a1 0 c1] w fun e w' => e = .returned (.bool true) ∧ Below w.heap.size w w' := by
  obtain ⟨i3, i3i, i3z, i3s, i3b⟩ := info_parts Try.info3
  obtain ⟨i2, i2i, i2z, i2s, i2b⟩ := info_parts Try.info2
  have h0m : 0 ≤ maxLen := Nat.zero_le _
  have hB := Below.refl w.heap.size w
  rcases a0 with _ | x0 <;> rcases a1 with _ | x1
  all_goals
    have q22 := fun w a => run_neq_slice_nil_any (P := Try.prog) w 22 3 a 0 c0 0 0 Try.underlying22
    have q23 := fun w a => run_neq_slice_nil_any (P := Try.prog) w 23 2 a 0 c1 0 0 Try.underlying23
    go_enter Try.func3, Try.ntmps3
    go_wp2_with (first
      | (go_at_call 4; refine (bytes_any _ _ _ _ _ _ h0m h0m _).mono ?_; rintro e w' ⟨⟨b, rfl⟩, rfl⟩)
      | (at_make; refine wpList_make_full _ rfl (.tmp 35) (.tmp 35) 22 rfl 0 3 i3 _ 1 Try.underlying22 i3i i3z i3s _ _ _ _ 0 rfl rfl rfl rfl (Nat.zero_le _) h0m (Nat.zero_le _) ?_; intro w1 hown hgrow; clear hown; replace hB := hB.grown hgrow hB.size (fun k h => by cases h); clear hgrow)
      | (at_make; refine wpList_make_full _ rfl (.tmp 44) (.tmp 44) 23 rfl 0 2 i2 _ 1 Try.underlying23 i2i i2z i2s _ _ _ _ 0 rfl rfl rfl rfl (Nat.zero_le _) h0m (Nat.zero_le _) ?_; intro w1 hown hgrow; clear hown; replace hB := hB.grown hgrow hB.size (fun k h => by cases h); clear hgrow)
      | (at_make; refine wpList_make_full _ rfl (.tmp 55) (.tmp 55) 22 rfl 0 3 i3 _ 1 Try.underlying22 i3i i3z i3s _ _ _ _ 0 rfl rfl rfl rfl (Nat.zero_le _) h0m (Nat.zero_le _) ?_; intro w1 hown hgrow; clear hown; replace hB := hB.grown hgrow hB.size (fun k h => by cases h); clear hgrow)
      | (refine wpList_copy_nothing rfl (.tmp 37) (.tmp 38) 22 22 rfl 3 Try.underlying22 Try.size3 _ _ _ _ _ _ rfl rfl rfl ?_)
      | (refine wpList_copy_nothing rfl (.tmp 46) (.tmp 47) 23 23 rfl 2 Try.underlying23 Try.size2 _ _ _ _ _ _ rfl rfl rfl ?_)
      | (go_at_call 5; refine (new_none _ _ _ _ _).mono ?_; rintro e w5 ⟨rfl, hb5⟩; replace hB := hB.trans (hb5.mono hB.size); clear hb5))
    · go_ret
      exact ⟨rfl, Below.refl _ _⟩
    go_loop [10] (fun i => i = .int .i64 0) (fun _ => 0)
    case atStart => rfl
    case round =>
      subst hrel
      go_wp2
      go_loop [11] (fun i => i = .int .i64 1) (fun _ => 0)
      case atStart => rfl
      case round =>
        subst hrel
        go_wp2
        go_loop [14] (fun i => i = .int .i64 1) (fun _ => 0)
        case atStart => rfl
        case round =>
          subst hrel
          go_wp2
          go_ret
          exact ⟨rfl, hB⟩

end Go.Proofs.Qxb6617592a
