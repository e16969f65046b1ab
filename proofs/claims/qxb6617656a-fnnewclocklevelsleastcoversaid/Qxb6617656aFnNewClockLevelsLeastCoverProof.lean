import Derived.Test.Qxb6617656aRows
import Derived.Test.Qxb6617656aWalks2
import Derived.WalkKit
import Derived.ProofKit
import Derived.OpenShut
import Derived.ShutString
import Derived.ChangeOld
import Derived.Below
namespace Go.Proofs.Qxb6617656a.fnNewClockLevelsLeastCover
open Go.ChangeShapes Go.WideShapes Go.ChangeAt Go.RowKit
open Go.ChangeMaps (open_string shut_string)
set_option linter.unusedVariables false      -- a walk need not use every 'w<i>' (that an integer argument fits its kind)

theorem own : ownKnob Try.prog.godebug = none := by kernel_rfl

theorem eight {n : Int} {L M : Nat} (h : Lev n L) (h8 : Lev (n * 8) M) (hn : 2 ≤ n) : M = L + 1 := by
  obtain ⟨a1, a2, a3, a4⟩ := h
  obtain ⟨b1, b2, b3, b4⟩ := h8
  have e : p8 (L + 1) = p8 L * 8 := rfl
  rcases Nat.lt_or_ge (L + 1) M with h1 | h1
  · have c := p8_le (show L + 1 ≤ M - 1 by omega)
    have := b4 (by omega)
    omega
  · rcases Nat.lt_or_ge M (L + 1) with h2 | h2
    · exfalso
      have c := p8_le (show M ≤ L by omega)
      by_cases hL : 1 < L
      · have d := a4 hL
        have f : p8 L = p8 (L - 1) * 8 := by
          have : L = (L - 1) + 1 := by omega
          rw [this]; rfl
        omega
      · have : L = 1 := by omega
        subst this
        have f : p8 1 = 8 := by decide
        omega
    · omega

theorem walk (a0 : Int) (w0 : (Lit.int .i64 a0).wf = true) (w : World) :
    Calls Try.prog 3 #[.int .i64 a0] w fun e w' => e = .returned (.bool true) ∧ Below w.heap.size w w' := by
  obtain ⟨l0, l1⟩ := bounds_i64 w0
  by_cases hbig : 1073741824 < a0
  · go_enter Try.func3, Try.ntmps3
    go_wp2
    go_ret
    exact ⟨rfl, Below.refl _ _⟩
  · have hle : a0 ≤ 1073741824 := by omega
    by_cases hmid : 2 ≤ a0 ∧ a0 ≤ 134217728
    · obtain ⟨m1, m2⟩ := hmid
      go_enter Try.func3, Try.ntmps3
      go_wp2_with (first
        | (go_at_call 4; (with_reducible refine (zz_any a0 l0 hle _).mono ?_); rintro e w1 ⟨⟨L, rfl, hL⟩, hb1⟩)
        | (go_at_call 5; (with_reducible refine (covers_any a0 L hL _).mono ?_); rintro e w2 ⟨rfl, rfl⟩)
        | (go_at_call 4; (with_reducible refine (zz_any (a0 * 8) (by omega) (by omega) _).mono ?_); rintro e w3 ⟨⟨M, rfl, hM⟩, hb3⟩; obtain rfl := eight hL hM m1; obtain ⟨t1, t2, _, _⟩ := hM))
      go_ret
      exact ⟨rfl, hb1.trans (hb3.mono hb1.size)⟩
    · by_cases m1 : 2 ≤ a0
      · have m2 : ¬ a0 ≤ 134217728 := fun h => hmid ⟨m1, h⟩
        clear hmid
        go_enter Try.func3, Try.ntmps3
        go_wp2_with (first
          | (go_at_call 4; (with_reducible refine (zz_any a0 l0 hle _).mono ?_); rintro e w1 ⟨⟨L, rfl, hL⟩, hb1⟩)
          | (go_at_call 5; (with_reducible refine (covers_any a0 L hL _).mono ?_); rintro e w2 ⟨rfl, rfl⟩))
        go_ret
        exact ⟨rfl, hb1⟩
      · have m1' : decide (2 ≤ a0) = false := decide_eq_false m1
        clear hmid
        go_enter Try.func3, Try.ntmps3
        go_wp2_with (first
          | (go_at_call 4; (with_reducible refine (zz_any a0 l0 hle _).mono ?_); rintro e w1 ⟨⟨L, rfl, hL⟩, hb1⟩)
          | (go_at_call 5; (with_reducible refine (covers_any a0 L hL _).mono ?_); rintro e w2 ⟨rfl, rfl⟩))
        go_ret
        exact ⟨rfl, hb1⟩

/-! ### THE ROW's STEP: WRITTEN OUT: LEAVE IT -/
set_option maxRecDepth 100000 in
theorem lifted (os : Os) (started : os.Started) (H : Type) (enc : TypeId × Value → H) :
    ReturnsInHanded {} Try.checked os 3 .any (Rows.fnNewClockLevelsLeastCoverSpec.pre6 enc Try.prog Try.f3 Rows.fnNewClockLevelsLeastCoverRow.domain false) (Rows.fnNewClockLevelsLeastCoverSpec.post enc Try.prog Try.f3 false true false false) := by
  refine returnsInHanded_of_change (C := Try.checked) own started (by kernel_rfl) Try.func3
    (ChangeSpec.witness6 (enc := enc) (C := Try.checked) false ⟨#[], #[.int .i64 0], []⟩ 8 (by kernel_rfl) (by kernel_rfl) (by kernel_rfl) (by kernel_rfl)) ?_
  intro W base args ds gs before hval0 hW hcnd _
  have hval : ∀ (j : Nat) t v, Try.f3.params[j]? = some t → args[j]? = some v → Value.okWide Try.prog W .any base t v := hval0
  have hW' := hW
  obtain ⟨p, q, hA0, hV, rfl, hfz, hnd⟩ := hW
  have hA : DataW.TrodAll enc Try.prog W 0 (fun _ => true) true Try.f3.params.toList args.toList ds p := hA0
  rw [Try.params3] at hA hval
  obtain ⟨v0, vs0, d0, ds0, p0, q0, hargs, rfl, rfl, h0, r0⟩ := trodAll_cons hA
  obtain ⟨rfl, rfl, rfl⟩ := trodAll_nil r0
  obtain rfl : args = #[v0] := by cases args; simp_all
  obtain ⟨rfl, rfl⟩ := trodVars_none hV
  obtain ⟨a0, rfl, rfl, rfl, w0⟩ := open_int Try.underlying3 (hval 0 3 v0 rfl rfl) h0
  clear hA0 hval0
  refine (walk a0 w0 W).mono fun e W' ⟨he, bel⟩ => ?_
  subst he
  exact ⟨_, rfl, _, _, _, [], _, [], hW', trodAll_mk1 (shut_bool Try.underlying4 _), (trodAll_cons_mk (shut_int Try.underlying3 w0) trodAll_mk0), rfl, bel.frame _, fun h => by cases h⟩

theorem over : Rows.fnNewClockLevelsLeastCoverRow.holds Try.pinned (OpenSpec.ofChange Rows.fnNewClockLevelsLeastCoverSpec) :=
  OpenClaim.holds_of_wide 3 Try.f3 rfl rfl rfl rfl rfl rfl rfl ⟨rfl, rfl, rfl, rfl, rfl⟩ rfl rfl rfl rfl rfl (by kernel_rfl) Try.func3 (by kernel_rfl)
    (of_decide_eq_true (by kernel_rfl)) (by unfold Func.isWrapper; first | (rw [if_pos (by decide +kernel)]; kernel_rfl) | (rw [if_neg (by decide +kernel)]; exact ⟨rfl, rfl⟩))
    (fun os started H enc _ => lifted os started H enc)

/-- ████ THE STATEMENT ████ -/
theorem proved : Rows.FnNewClockLevelsLeastCoverSaid :=
  over
end Go.Proofs.Qxb6617656a.fnNewClockLevelsLeastCover
