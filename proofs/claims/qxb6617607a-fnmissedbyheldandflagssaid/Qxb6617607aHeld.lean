import Derived.Test.Qxb6617607aLaws
namespace Go.Proofs.Qxb6617607a
open Go.RowKit
set_option linter.unusedVariables false

theorem mono_s (fr cr : Int) (ow hn : Bool) (r : Int) (u : Bool) (h : mb fr cr ow hn r false u = true) : mb fr cr ow hn r true u = true := by
  unfold mb at *
  by_cases h1 : ow = false ∧ cr = 0
  · rw [if_pos h1] at *; exact h
  · rw [if_neg h1] at *
    by_cases h2 : r = 0
    · rw [if_pos h2] at *; simp
    · rw [if_neg h2] at *; simp at h
theorem mono_u (fr cr : Int) (ow hn : Bool) (r : Int) (s : Bool) (h : mb fr cr ow hn r s false = true) : mb fr cr ow hn r s true = true := by
  unfold mb at *
  by_cases h1 : ow = false ∧ cr = 0
  · rw [if_pos h1] at *; exact h
  · rw [if_neg h1] at *
    by_cases h2 : r = 0
    · rw [if_pos h2] at *; simp at h; simp [h]
    · rw [if_neg h2] at *; exact h
theorem mono_h (fr cr : Int) (ow : Bool) (r : Int) (s u : Bool) (h : mb fr cr ow false r s u = true) : mb fr cr ow true r s u = true := by
  unfold mb at *
  by_cases h1 : ow = false ∧ cr = 0
  · rw [if_pos h1] at *; exact h
  · rw [if_neg h1] at *
    by_cases h2 : r = 0
    · rw [if_pos h2] at *; simp at h; simp [h]
    · rw [if_neg h2] at *; exact h


theorem mb_hs (fr cr : Int) (ow hn u : Bool) : mb fr cr ow hn 0 true u = true := by unfold mb; split <;> simp
theorem mb_hu (fr cr : Int) (ow s : Bool) : mb fr cr ow true 0 s true = true := by unfold mb; split <;> simp
theorem mb_two (fr cr : Int) (hn s u : Bool) (h : (cr == 0) = true) : mb fr cr false hn 0 s u = true := by
  have : cr = 0 := by simpa using h
  simp [mb, this]
theorem mb_one1 (fr cr : Int) (hn : Bool) (h : (cr == 0) = false) : mb fr cr false hn 0 false false = false := by
  have : ¬ cr = 0 := by simpa using h
  simp [mb, this]
theorem mb_one2 (fr cr : Int) (hn : Bool) : mb fr cr true hn 0 false false = false := by simp [mb]
theorem mb_ret (fr cr : Int) (hn : Bool) (r : Int) (s u : Bool) (h : (cr == 0) = true) (h2 : (r != 0) = true) : mb fr cr true hn r s u = false := by
  have h1 : cr = 0 := by simpa using h
  have h3 : ¬ r = 0 := by simpa using h2
  simp [mb, h1, h3]

set_option maxRecDepth 1000000 in
set_option maxHeartbeats 4000000 in
theorem held_any (fr al cr fi ai fo co : Int) (ow hn : Bool) (T : Nat → Int) (bn ms r : Int) (s u : Bool) (w : World) :
    Calls Try.prog 3 #[.agg (aC fr al cr fi ai fo co ow hn), .agg (xC T bn ms r s u)] w fun e w' => e = .returned (.bool true) ∧ Below w.heap.size w w' := by
  have hst := St.nil w
  go_enter Try.func3, Try.ntmps3
  go_upto_region 6 with (first
    | ((with_reducible refine law_bx 23 (.tmp 0) ?_ ?_ hst (aC fr al cr fi ai fo co ow hn) ?_ ?_); rfl; rfl; rfl; clear hst; intro gA wx hst; replace hst : St w wx [(gA, aC fr al cr fi ai fo co ow hn)] := hst)
    | ((with_reducible refine law_bx 27 (.tmp 1) ?_ ?_ hst (xC T bn ms r s u) ?_ ?_); rfl; rfl; rfl; clear hst; intro gX wx hst; replace hst : St w wx [(gA, aC fr al cr fi ai fo co ow hn), (gX, xC T bn ms r s u)] := hst)
    | ((with_reducible refine law_ldx (.tmp 3) ?_ ?_ hst 1 gX T bn ms r s u ?_ ?_ ?_); rfl; rfl; rfl; rfl)
    | ((with_reducible refine law_alx ?_ 6 ?_ ?_ hst ?_); rfl; rfl; rfl; clear hst; intro gL wx hst; replace hst : St w wx [(gA, aC fr al cr fi ai fo co ow hn), (gX, xC T bn ms r s u), (gL, xC (fun _ => 0) 0 0 0 false false)] := hst)
    | ((with_reducible refine law_stx (.tmp 6) (.tmp 14) ?_ ?_ ?_ hst 2 gL T bn ms r s u (fun _ => 0) 0 0 0 false false ?_ ?_ ?_ ?_); rfl; rfl; rfl; rfl; rfl; rfl; clear hst; intro wx hst; replace hst : St w wx [(gA, aC fr al cr fi ai fo co ow hn), (gX, xC T bn ms r s u), (gL, xC T bn ms r s u)] := hst)
    | ((with_reducible refine law_x19 (.tmp 15) (.const (.bool false)) ?_ ?_ ?_ hst 2 gL T bn ms r s u ?_ ?_ false ?_ ?_); rfl; rfl; rfl; rfl; rfl; rfl; clear hst; intro wx hst; replace hst : St w wx [(gA, aC fr al cr fi ai fo co ow hn), (gX, xC T bn ms r s u), (gL, xC T bn ms r false u)] := hst)
    | ((with_reducible refine law_alx ?_ 7 ?_ ?_ hst ?_); rfl; rfl; rfl; clear hst; intro gH wx hst; replace hst : St w wx [(gA, aC fr al cr fi ai fo co ow hn), (gX, xC T bn ms r s u), (gL, xC T bn ms r false u), (gH, xC (fun _ => 0) 0 0 0 false false)] := hst)
    | ((with_reducible refine law_stx (.tmp 7) (.tmp 16) ?_ ?_ ?_ hst 3 gH T bn ms r s u (fun _ => 0) 0 0 0 false false ?_ ?_ ?_ ?_); rfl; rfl; rfl; rfl; rfl; rfl; clear hst; intro wx hst; replace hst : St w wx [(gA, aC fr al cr fi ai fo co ow hn), (gX, xC T bn ms r s u), (gL, xC T bn ms r false u), (gH, xC T bn ms r s u)] := hst)
    | ((with_reducible refine law_x19 (.tmp 17) (.const (.bool true)) ?_ ?_ ?_ hst 3 gH T bn ms r s u ?_ ?_ true ?_ ?_); rfl; rfl; rfl; rfl; rfl; rfl; clear hst; intro wx hst; replace hst : St w wx [(gA, aC fr al cr fi ai fo co ow hn), (gX, xC T bn ms r s u), (gL, xC T bn ms r false u), (gH, xC T bn ms r true u)] := hst))
  go_cut [26] (fun v wc => v = .bool false ∧ St w wc [(gA, aC fr al cr fi ai fo co ow hn), (gX, xC T bn ms r s u), (gL, xC T bn ms r false u), (gH, xC T bn ms r true u)])
  case first =>
    by_cases h1 : mb fr cr ow hn r false u = true
    · have h2 := mono_s _ _ _ _ _ _ h1
      go_wp2_with (first
        | ((with_reducible refine law_lda (.tmp 2) ?_ ?_ hst 0 gA fr al cr fi ai fo co ow hn ?_ ?_ ?_); rfl; rfl; rfl; rfl)
        | ((with_reducible refine law_ldx (.tmp 6) ?_ ?_ hst 2 gL T bn ms r false u ?_ ?_ ?_); rfl; rfl; rfl; rfl)
        | (go_at_call 5; (with_reducible refine (missed_is fr al cr fi ai fo co ow hn T bn ms r false u true h1 _).mono ?_); rintro e wy ⟨rfl, hby⟩; replace hst := hst.call hby; clear hby)
        | ((with_reducible refine law_ldx (.tmp 7) ?_ ?_ hst 3 gH T bn ms r true u ?_ ?_ ?_); rfl; rfl; rfl; rfl)
        | (go_at_call 5; (with_reducible refine (missed_is fr al cr fi ai fo co ow hn T bn ms r true u true h2 _).mono ?_); rintro e wy ⟨rfl, hby⟩; replace hst := hst.call hby; clear hby))
      go_meet
      case rel => exact ⟨rfl, hst⟩
    · have h1 : mb fr cr ow hn r false u = false := by simpa using h1
      go_wp2_with (first
        | ((with_reducible refine law_lda (.tmp 2) ?_ ?_ hst 0 gA fr al cr fi ai fo co ow hn ?_ ?_ ?_); rfl; rfl; rfl; rfl)
        | ((with_reducible refine law_ldx (.tmp 6) ?_ ?_ hst 2 gL T bn ms r false u ?_ ?_ ?_); rfl; rfl; rfl; rfl)
        | (go_at_call 5; (with_reducible refine (missed_is fr al cr fi ai fo co ow hn T bn ms r false u false h1 _).mono ?_); rintro e wy ⟨rfl, hby⟩; replace hst := hst.call hby; clear hby))
      go_meet
      case rel => exact ⟨rfl, hst⟩
  case rest =>
    clear hst
    obtain ⟨rfl, hst⟩ := hcut
    go_upto_region 12 with (first
      | ((with_reducible refine law_ldx (.tmp 3) ?_ ?_ hst 1 gX T bn ms r s u ?_ ?_ ?_); rfl; rfl; rfl; rfl)
      | ((with_reducible refine law_stx (.tmp 6) (.tmp 27) ?_ ?_ ?_ hst 2 gL T bn ms r s u T bn ms r false u ?_ ?_ ?_ ?_); rfl; rfl; rfl; rfl; rfl; rfl; clear hst; intro wx hst; replace hst : St w wx [(gA, aC fr al cr fi ai fo co ow hn), (gX, xC T bn ms r s u), (gL, xC T bn ms r s u), (gH, xC T bn ms r true u)] := hst)
      | ((with_reducible refine law_x20 (.tmp 28) (.const (.bool false)) ?_ ?_ ?_ hst 2 gL T bn ms r s u ?_ ?_ false ?_ ?_); rfl; rfl; rfl; rfl; rfl; rfl; clear hst; intro wx hst; replace hst : St w wx [(gA, aC fr al cr fi ai fo co ow hn), (gX, xC T bn ms r s u), (gL, xC T bn ms r s false), (gH, xC T bn ms r true u)] := hst)
      | ((with_reducible refine law_stx (.tmp 7) (.tmp 29) ?_ ?_ ?_ hst 3 gH T bn ms r s u T bn ms r true u ?_ ?_ ?_ ?_); rfl; rfl; rfl; rfl; rfl; rfl; clear hst; intro wx hst; replace hst : St w wx [(gA, aC fr al cr fi ai fo co ow hn), (gX, xC T bn ms r s u), (gL, xC T bn ms r s false), (gH, xC T bn ms r s u)] := hst)
      | ((with_reducible refine law_x20 (.tmp 30) (.const (.bool true)) ?_ ?_ ?_ hst 3 gH T bn ms r s u ?_ ?_ true ?_ ?_); rfl; rfl; rfl; rfl; rfl; rfl; clear hst; intro wx hst; replace hst : St w wx [(gA, aC fr al cr fi ai fo co ow hn), (gX, xC T bn ms r s u), (gL, xC T bn ms r s false), (gH, xC T bn ms r s true)] := hst))
    go_cut [39] (fun v wc => v = .bool false ∧ St w wc [(gA, aC fr al cr fi ai fo co ow hn), (gX, xC T bn ms r s u), (gL, xC T bn ms r s false), (gH, xC T bn ms r s true)])
    case first =>
      by_cases h1 : mb fr cr ow hn r s false = true
      · have h2 := mono_u _ _ _ _ _ _ h1
        go_wp2_with (first
          | ((with_reducible refine law_lda (.tmp 2) ?_ ?_ hst 0 gA fr al cr fi ai fo co ow hn ?_ ?_ ?_); rfl; rfl; rfl; rfl)
          | ((with_reducible refine law_ldx (.tmp 6) ?_ ?_ hst 2 gL T bn ms r s false ?_ ?_ ?_); rfl; rfl; rfl; rfl)
          | (go_at_call 5; (with_reducible refine (missed_is fr al cr fi ai fo co ow hn T bn ms r s false true h1 _).mono ?_); rintro e wy ⟨rfl, hby⟩; replace hst := hst.call hby; clear hby)
          | ((with_reducible refine law_ldx (.tmp 7) ?_ ?_ hst 3 gH T bn ms r s true ?_ ?_ ?_); rfl; rfl; rfl; rfl)
          | (go_at_call 5; (with_reducible refine (missed_is fr al cr fi ai fo co ow hn T bn ms r s true true h2 _).mono ?_); rintro e wy ⟨rfl, hby⟩; replace hst := hst.call hby; clear hby))
        go_meet
        case rel => exact ⟨rfl, hst⟩
      · have h1 : mb fr cr ow hn r s false = false := by simpa using h1
        go_wp2_with (first
          | ((with_reducible refine law_lda (.tmp 2) ?_ ?_ hst 0 gA fr al cr fi ai fo co ow hn ?_ ?_ ?_); rfl; rfl; rfl; rfl)
          | ((with_reducible refine law_ldx (.tmp 6) ?_ ?_ hst 2 gL T bn ms r s false ?_ ?_ ?_); rfl; rfl; rfl; rfl)
          | (go_at_call 5; (with_reducible refine (missed_is fr al cr fi ai fo co ow hn T bn ms r s false false h1 _).mono ?_); rintro e wy ⟨rfl, hby⟩; replace hst := hst.call hby; clear hby))
        go_meet
        case rel => exact ⟨rfl, hst⟩
    case rest =>
      clear hst
      obtain ⟨rfl, hst⟩ := hcut
      go_upto_region 18 with (first
        | ((with_reducible refine law_lda (.tmp 2) ?_ ?_ hst 0 gA fr al cr fi ai fo co ow hn ?_ ?_ ?_); rfl; rfl; rfl; rfl)
        | ((with_reducible refine law_ala ?_ 8 ?_ ?_ hst ?_); rfl; rfl; rfl; clear hst; intro gAl wx hst; replace hst : St w wx [(gA, aC fr al cr fi ai fo co ow hn), (gX, xC T bn ms r s u), (gL, xC T bn ms r s false), (gH, xC T bn ms r s true), (gAl, aC 0 0 0 0 0 0 0 false false)] := hst)
        | ((with_reducible refine law_sta (.tmp 8) (.tmp 40) ?_ ?_ ?_ hst 4 gAl fr al cr fi ai fo co ow hn 0 0 0 0 0 0 0 false false ?_ ?_ ?_ ?_); rfl; rfl; rfl; rfl; rfl; rfl; clear hst; intro wx hst; replace hst : St w wx [(gA, aC fr al cr fi ai fo co ow hn), (gX, xC T bn ms r s u), (gL, xC T bn ms r s false), (gH, xC T bn ms r s true), (gAl, aC fr al cr fi ai fo co ow hn)] := hst)
        | ((with_reducible refine law_a8 (.tmp 41) (.const (.bool false)) ?_ ?_ ?_ hst 4 gAl fr al cr fi ai fo co ow hn ?_ ?_ false ?_ ?_); rfl; rfl; rfl; rfl; rfl; rfl; clear hst; intro wx hst; replace hst : St w wx [(gA, aC fr al cr fi ai fo co ow hn), (gX, xC T bn ms r s u), (gL, xC T bn ms r s false), (gH, xC T bn ms r s true), (gAl, aC fr al cr fi ai fo co ow false)] := hst)
        | ((with_reducible refine law_ala ?_ 9 ?_ ?_ hst ?_); rfl; rfl; rfl; clear hst; intro gAh wx hst; replace hst : St w wx [(gA, aC fr al cr fi ai fo co ow hn), (gX, xC T bn ms r s u), (gL, xC T bn ms r s false), (gH, xC T bn ms r s true), (gAl, aC fr al cr fi ai fo co ow false), (gAh, aC 0 0 0 0 0 0 0 false false)] := hst)
        | ((with_reducible refine law_sta (.tmp 9) (.tmp 42) ?_ ?_ ?_ hst 5 gAh fr al cr fi ai fo co ow hn 0 0 0 0 0 0 0 false false ?_ ?_ ?_ ?_); rfl; rfl; rfl; rfl; rfl; rfl; clear hst; intro wx hst; replace hst : St w wx [(gA, aC fr al cr fi ai fo co ow hn), (gX, xC T bn ms r s u), (gL, xC T bn ms r s false), (gH, xC T bn ms r s true), (gAl, aC fr al cr fi ai fo co ow false), (gAh, aC fr al cr fi ai fo co ow hn)] := hst)
        | ((with_reducible refine law_a8 (.tmp 43) (.const (.bool true)) ?_ ?_ ?_ hst 5 gAh fr al cr fi ai fo co ow hn ?_ ?_ true ?_ ?_); rfl; rfl; rfl; rfl; rfl; rfl; clear hst; intro wx hst; replace hst : St w wx [(gA, aC fr al cr fi ai fo co ow hn), (gX, xC T bn ms r s u), (gL, xC T bn ms r s false), (gH, xC T bn ms r s true), (gAl, aC fr al cr fi ai fo co ow false), (gAh, aC fr al cr fi ai fo co ow true)] := hst))
      go_cut [52] (fun v wc => v = .bool false ∧ St w wc [(gA, aC fr al cr fi ai fo co ow hn), (gX, xC T bn ms r s u), (gL, xC T bn ms r s false), (gH, xC T bn ms r s true), (gAl, aC fr al cr fi ai fo co ow false), (gAh, aC fr al cr fi ai fo co ow true)])
      case first =>
        by_cases h1 : mb fr cr ow false r s u = true
        · have h2 := mono_h _ _ _ _ _ _ h1
          go_wp2_with (first
            | ((with_reducible refine law_lda (.tmp 8) ?_ ?_ hst 4 gAl fr al cr fi ai fo co ow false ?_ ?_ ?_); rfl; rfl; rfl; rfl)
            | ((with_reducible refine law_ldx (.tmp 3) ?_ ?_ hst 1 gX T bn ms r s u ?_ ?_ ?_); rfl; rfl; rfl; rfl)
            | (go_at_call 5; (with_reducible refine (missed_is fr al cr fi ai fo co ow false T bn ms r s u true h1 _).mono ?_); rintro e wy ⟨rfl, hby⟩; replace hst := hst.call hby; clear hby)
            | ((with_reducible refine law_lda (.tmp 9) ?_ ?_ hst 5 gAh fr al cr fi ai fo co ow true ?_ ?_ ?_); rfl; rfl; rfl; rfl)
            | (go_at_call 5; (with_reducible refine (missed_is fr al cr fi ai fo co ow true T bn ms r s u true h2 _).mono ?_); rintro e wy ⟨rfl, hby⟩; replace hst := hst.call hby; clear hby))
          go_meet
          case rel => exact ⟨rfl, hst⟩
        · have h1 : mb fr cr ow false r s u = false := by simpa using h1
          go_wp2_with (first
            | ((with_reducible refine law_lda (.tmp 8) ?_ ?_ hst 4 gAl fr al cr fi ai fo co ow false ?_ ?_ ?_); rfl; rfl; rfl; rfl)
            | ((with_reducible refine law_ldx (.tmp 3) ?_ ?_ hst 1 gX T bn ms r s u ?_ ?_ ?_); rfl; rfl; rfl; rfl)
            | (go_at_call 5; (with_reducible refine (missed_is fr al cr fi ai fo co ow false T bn ms r s u false h1 _).mono ?_); rintro e wy ⟨rfl, hby⟩; replace hst := hst.call hby; clear hby))
          go_meet
          case rel => exact ⟨rfl, hst⟩
      case rest =>
        clear hst
        obtain ⟨rfl, hst⟩ := hcut
        cases ow
        · by_cases k : cr = 0
          · have k1 : (cr == 0) = true := by simpa using k
            clear k
            go_upto_region 25 with (first
              | ((with_reducible refine law_ldx (.tmp 3) ?_ ?_ hst 1 gX T bn ms r s u ?_ ?_ ?_); rfl; rfl; rfl; rfl)
              | ((with_reducible refine law_alx ?_ 10 ?_ ?_ hst ?_); rfl; rfl; rfl; clear hst; intro gHs wx hst; replace hst : St w wx [(gA, aC fr al cr fi ai fo co false hn), (gX, xC T bn ms r s u), (gL, xC T bn ms r s false), (gH, xC T bn ms r s true), (gAl, aC fr al cr fi ai fo co false false), (gAh, aC fr al cr fi ai fo co false true), (gHs, xC (fun _ => 0) 0 0 0 false false)] := hst)
              | ((with_reducible refine law_stx (.tmp 10) (.tmp 53) ?_ ?_ ?_ hst 6 gHs T bn ms r s u (fun _ => 0) 0 0 0 false false ?_ ?_ ?_ ?_); rfl; rfl; rfl; rfl; rfl; rfl; clear hst; intro wx hst; replace hst : St w wx [(gA, aC fr al cr fi ai fo co false hn), (gX, xC T bn ms r s u), (gL, xC T bn ms r s false), (gH, xC T bn ms r s true), (gAl, aC fr al cr fi ai fo co false false), (gAh, aC fr al cr fi ai fo co false true), (gHs, xC T bn ms r s u)] := hst)
              | ((with_reducible refine law_x18 (.tmp 54) (.const (.int .i64 0)) ?_ ?_ ?_ hst 6 gHs T bn ms r s u ?_ ?_ 0 ?_ ?_); rfl; rfl; rfl; rfl; rfl; rfl; clear hst; intro wx hst; replace hst : St w wx [(gA, aC fr al cr fi ai fo co false hn), (gX, xC T bn ms r s u), (gL, xC T bn ms r s false), (gH, xC T bn ms r s true), (gAl, aC fr al cr fi ai fo co false false), (gAh, aC fr al cr fi ai fo co false true), (gHs, xC T bn ms 0 s u)] := hst)
              | ((with_reducible refine law_x19 (.tmp 55) (.const (.bool true)) ?_ ?_ ?_ hst 6 gHs T bn ms 0 s u ?_ ?_ true ?_ ?_); rfl; rfl; rfl; rfl; rfl; rfl; clear hst; intro wx hst; replace hst : St w wx [(gA, aC fr al cr fi ai fo co false hn), (gX, xC T bn ms r s u), (gL, xC T bn ms r s false), (gH, xC T bn ms r s true), (gAl, aC fr al cr fi ai fo co false false), (gAh, aC fr al cr fi ai fo co false true), (gHs, xC T bn ms 0 true u)] := hst)
              | ((with_reducible refine law_lda (.tmp 2) ?_ ?_ hst 0 gA fr al cr fi ai fo co false hn ?_ ?_ ?_); rfl; rfl; rfl; rfl)
              | ((with_reducible refine law_ldx (.tmp 10) ?_ ?_ hst 6 gHs T bn ms 0 true u ?_ ?_ ?_); rfl; rfl; rfl; rfl)
              | (go_at_call 5; (with_reducible refine (missed_is fr al cr fi ai fo co false hn T bn ms 0 true u true (mb_hs _ _ _ _ _) _).mono ?_); rintro e wy ⟨rfl, hby⟩; replace hst := hst.call hby; clear hby))
            go_upto_region 32 with (first
              | ((with_reducible refine law_ldx (.tmp 3) ?_ ?_ hst 1 gX T bn ms r s u ?_ ?_ ?_); rfl; rfl; rfl; rfl)
              | ((with_reducible refine law_alx ?_ 11 ?_ ?_ hst ?_); rfl; rfl; rfl; clear hst; intro gHu wx hst; replace hst : St w wx [(gA, aC fr al cr fi ai fo co false hn), (gX, xC T bn ms r s u), (gL, xC T bn ms r s false), (gH, xC T bn ms r s true), (gAl, aC fr al cr fi ai fo co false false), (gAh, aC fr al cr fi ai fo co false true), (gHs, xC T bn ms 0 true u), (gHu, xC (fun _ => 0) 0 0 0 false false)] := hst)
              | ((with_reducible refine law_stx (.tmp 11) (.tmp 60) ?_ ?_ ?_ hst 7 gHu T bn ms r s u (fun _ => 0) 0 0 0 false false ?_ ?_ ?_ ?_); rfl; rfl; rfl; rfl; rfl; rfl; clear hst; intro wx hst; replace hst : St w wx [(gA, aC fr al cr fi ai fo co false hn), (gX, xC T bn ms r s u), (gL, xC T bn ms r s false), (gH, xC T bn ms r s true), (gAl, aC fr al cr fi ai fo co false false), (gAh, aC fr al cr fi ai fo co false true), (gHs, xC T bn ms 0 true u), (gHu, xC T bn ms r s u)] := hst)
              | ((with_reducible refine law_x18 (.tmp 61) (.const (.int .i64 0)) ?_ ?_ ?_ hst 7 gHu T bn ms r s u ?_ ?_ 0 ?_ ?_); rfl; rfl; rfl; rfl; rfl; rfl; clear hst; intro wx hst; replace hst : St w wx [(gA, aC fr al cr fi ai fo co false hn), (gX, xC T bn ms r s u), (gL, xC T bn ms r s false), (gH, xC T bn ms r s true), (gAl, aC fr al cr fi ai fo co false false), (gAh, aC fr al cr fi ai fo co false true), (gHs, xC T bn ms 0 true u), (gHu, xC T bn ms 0 s u)] := hst)
              | ((with_reducible refine law_x20 (.tmp 62) (.const (.bool true)) ?_ ?_ ?_ hst 7 gHu T bn ms 0 s u ?_ ?_ true ?_ ?_); rfl; rfl; rfl; rfl; rfl; rfl; clear hst; intro wx hst; replace hst : St w wx [(gA, aC fr al cr fi ai fo co false hn), (gX, xC T bn ms r s u), (gL, xC T bn ms r s false), (gH, xC T bn ms r s true), (gAl, aC fr al cr fi ai fo co false false), (gAh, aC fr al cr fi ai fo co false true), (gHs, xC T bn ms 0 true u), (gHu, xC T bn ms 0 s true)] := hst)
              | ((with_reducible refine law_lda (.tmp 2) ?_ ?_ hst 0 gA fr al cr fi ai fo co false hn ?_ ?_ ?_); rfl; rfl; rfl; rfl)
              | ((with_reducible refine law_ala ?_ 12 ?_ ?_ hst ?_); rfl; rfl; rfl; clear hst; intro gHn wx hst; replace hst : St w wx [(gA, aC fr al cr fi ai fo co false hn), (gX, xC T bn ms r s u), (gL, xC T bn ms r s false), (gH, xC T bn ms r s true), (gAl, aC fr al cr fi ai fo co false false), (gAh, aC fr al cr fi ai fo co false true), (gHs, xC T bn ms 0 true u), (gHu, xC T bn ms 0 s true), (gHn, aC 0 0 0 0 0 0 0 false false)] := hst)
              | ((with_reducible refine law_sta (.tmp 12) (.tmp 63) ?_ ?_ ?_ hst 8 gHn fr al cr fi ai fo co false hn 0 0 0 0 0 0 0 false false ?_ ?_ ?_ ?_); rfl; rfl; rfl; rfl; rfl; rfl; clear hst; intro wx hst; replace hst : St w wx [(gA, aC fr al cr fi ai fo co false hn), (gX, xC T bn ms r s u), (gL, xC T bn ms r s false), (gH, xC T bn ms r s true), (gAl, aC fr al cr fi ai fo co false false), (gAh, aC fr al cr fi ai fo co false true), (gHs, xC T bn ms 0 true u), (gHu, xC T bn ms 0 s true), (gHn, aC fr al cr fi ai fo co false hn)] := hst)
              | ((with_reducible refine law_a8 (.tmp 64) (.const (.bool true)) ?_ ?_ ?_ hst 8 gHn fr al cr fi ai fo co false hn ?_ ?_ true ?_ ?_); rfl; rfl; rfl; rfl; rfl; rfl; clear hst; intro wx hst; replace hst : St w wx [(gA, aC fr al cr fi ai fo co false hn), (gX, xC T bn ms r s u), (gL, xC T bn ms r s false), (gH, xC T bn ms r s true), (gAl, aC fr al cr fi ai fo co false false), (gAh, aC fr al cr fi ai fo co false true), (gHs, xC T bn ms 0 true u), (gHu, xC T bn ms 0 s true), (gHn, aC fr al cr fi ai fo co false true)] := hst)
              | ((with_reducible refine law_lda (.tmp 12) ?_ ?_ hst 8 gHn fr al cr fi ai fo co false true ?_ ?_ ?_); rfl; rfl; rfl; rfl)
              | ((with_reducible refine law_ldx (.tmp 11) ?_ ?_ hst 7 gHu T bn ms 0 s true ?_ ?_ ?_); rfl; rfl; rfl; rfl)
              | (go_at_call 5; (with_reducible refine (missed_is fr al cr fi ai fo co false true T bn ms 0 s true true (mb_hu _ _ _ _) _).mono ?_); rintro e wy ⟨rfl, hby⟩; replace hst := hst.call hby; clear hby))
            go_wp2_with (first
              | ((with_reducible refine law_ldx (.tmp 3) ?_ ?_ hst 1 gX T bn ms r s u ?_ ?_ ?_); rfl; rfl; rfl; rfl)
              | ((with_reducible refine law_alx ?_ 13 ?_ ?_ hst ?_); rfl; rfl; rfl; clear hst; intro gHh wx hst; replace hst : St w wx [(gA, aC fr al cr fi ai fo co false hn), (gX, xC T bn ms r s u), (gL, xC T bn ms r s false), (gH, xC T bn ms r s true), (gAl, aC fr al cr fi ai fo co false false), (gAh, aC fr al cr fi ai fo co false true), (gHs, xC T bn ms 0 true u), (gHu, xC T bn ms 0 s true), (gHn, aC fr al cr fi ai fo co false true), (gHh, xC (fun _ => 0) 0 0 0 false false)] := hst)
              | ((with_reducible refine law_stx (.tmp 13) (.tmp 69) ?_ ?_ ?_ hst 9 gHh T bn ms r s u (fun _ => 0) 0 0 0 false false ?_ ?_ ?_ ?_); rfl; rfl; rfl; rfl; rfl; rfl; clear hst; intro wx hst; replace hst : St w wx [(gA, aC fr al cr fi ai fo co false hn), (gX, xC T bn ms r s u), (gL, xC T bn ms r s false), (gH, xC T bn ms r s true), (gAl, aC fr al cr fi ai fo co false false), (gAh, aC fr al cr fi ai fo co false true), (gHs, xC T bn ms 0 true u), (gHu, xC T bn ms 0 s true), (gHn, aC fr al cr fi ai fo co false true), (gHh, xC T bn ms r s u)] := hst)
              | ((with_reducible refine law_x18 (.tmp 70) (.const (.int .i64 0)) ?_ ?_ ?_ hst 9 gHh T bn ms r s u ?_ ?_ 0 ?_ ?_); rfl; rfl; rfl; rfl; rfl; rfl; clear hst; intro wx hst; replace hst : St w wx [(gA, aC fr al cr fi ai fo co false hn), (gX, xC T bn ms r s u), (gL, xC T bn ms r s false), (gH, xC T bn ms r s true), (gAl, aC fr al cr fi ai fo co false false), (gAh, aC fr al cr fi ai fo co false true), (gHs, xC T bn ms 0 true u), (gHu, xC T bn ms 0 s true), (gHn, aC fr al cr fi ai fo co false true), (gHh, xC T bn ms 0 s u)] := hst)
              | ((with_reducible refine law_l7 (.tmp 71) ?_ ?_ hst 0 gA fr al cr fi ai fo co false hn ?_ ?_ ?_); rfl; rfl; rfl; rfl)
              | ((with_reducible refine law_l2 (.tmp 75) ?_ ?_ hst 0 gA fr al cr fi ai fo co false hn ?_ ?_ ?_); rfl; rfl; rfl; rfl)
              | ((with_reducible refine law_lda (.tmp 2) ?_ ?_ hst 0 gA fr al cr fi ai fo co false hn ?_ ?_ ?_); rfl; rfl; rfl; rfl)
              | ((with_reducible refine law_ldx (.tmp 13) ?_ ?_ hst 9 gHh T bn ms 0 s u ?_ ?_ ?_); rfl; rfl; rfl; rfl)
              | (go_at_call 5; (with_reducible refine (missed_is fr al cr fi ai fo co false hn T bn ms 0 s u true (mb_two _ _ _ _ _ k1) _).mono ?_); rintro e wy ⟨rfl, hby⟩; replace hst := hst.call hby; clear hby)
              | ((with_reducible refine law_l7 (.tmp 88) ?_ ?_ hst 0 gA fr al cr fi ai fo co false hn ?_ ?_ ?_); rfl; rfl; rfl; rfl)
              | ((with_reducible refine law_l2 (.tmp 91) ?_ ?_ hst 0 gA fr al cr fi ai fo co false hn ?_ ?_ ?_); rfl; rfl; rfl; rfl)
              | ((with_reducible refine law_l18 (.tmp 96) ?_ ?_ hst 1 gX T bn ms r s u ?_ ?_ ?_); rfl; rfl; rfl; rfl))
            go_ret
            exact ⟨rfl, hst.below⟩
          · have k1 : (cr == 0) = false := by simpa using k
            clear k
            go_upto_region 25 with (first
              | ((with_reducible refine law_ldx (.tmp 3) ?_ ?_ hst 1 gX T bn ms r s u ?_ ?_ ?_); rfl; rfl; rfl; rfl)
              | ((with_reducible refine law_alx ?_ 10 ?_ ?_ hst ?_); rfl; rfl; rfl; clear hst; intro gHs wx hst; replace hst : St w wx [(gA, aC fr al cr fi ai fo co false hn), (gX, xC T bn ms r s u), (gL, xC T bn ms r s false), (gH, xC T bn ms r s true), (gAl, aC fr al cr fi ai fo co false false), (gAh, aC fr al cr fi ai fo co false true), (gHs, xC (fun _ => 0) 0 0 0 false false)] := hst)
              | ((with_reducible refine law_stx (.tmp 10) (.tmp 53) ?_ ?_ ?_ hst 6 gHs T bn ms r s u (fun _ => 0) 0 0 0 false false ?_ ?_ ?_ ?_); rfl; rfl; rfl; rfl; rfl; rfl; clear hst; intro wx hst; replace hst : St w wx [(gA, aC fr al cr fi ai fo co false hn), (gX, xC T bn ms r s u), (gL, xC T bn ms r s false), (gH, xC T bn ms r s true), (gAl, aC fr al cr fi ai fo co false false), (gAh, aC fr al cr fi ai fo co false true), (gHs, xC T bn ms r s u)] := hst)
              | ((with_reducible refine law_x18 (.tmp 54) (.const (.int .i64 0)) ?_ ?_ ?_ hst 6 gHs T bn ms r s u ?_ ?_ 0 ?_ ?_); rfl; rfl; rfl; rfl; rfl; rfl; clear hst; intro wx hst; replace hst : St w wx [(gA, aC fr al cr fi ai fo co false hn), (gX, xC T bn ms r s u), (gL, xC T bn ms r s false), (gH, xC T bn ms r s true), (gAl, aC fr al cr fi ai fo co false false), (gAh, aC fr al cr fi ai fo co false true), (gHs, xC T bn ms 0 s u)] := hst)
              | ((with_reducible refine law_x19 (.tmp 55) (.const (.bool true)) ?_ ?_ ?_ hst 6 gHs T bn ms 0 s u ?_ ?_ true ?_ ?_); rfl; rfl; rfl; rfl; rfl; rfl; clear hst; intro wx hst; replace hst : St w wx [(gA, aC fr al cr fi ai fo co false hn), (gX, xC T bn ms r s u), (gL, xC T bn ms r s false), (gH, xC T bn ms r s true), (gAl, aC fr al cr fi ai fo co false false), (gAh, aC fr al cr fi ai fo co false true), (gHs, xC T bn ms 0 true u)] := hst)
              | ((with_reducible refine law_lda (.tmp 2) ?_ ?_ hst 0 gA fr al cr fi ai fo co false hn ?_ ?_ ?_); rfl; rfl; rfl; rfl)
              | ((with_reducible refine law_ldx (.tmp 10) ?_ ?_ hst 6 gHs T bn ms 0 true u ?_ ?_ ?_); rfl; rfl; rfl; rfl)
              | (go_at_call 5; (with_reducible refine (missed_is fr al cr fi ai fo co false hn T bn ms 0 true u true (mb_hs _ _ _ _ _) _).mono ?_); rintro e wy ⟨rfl, hby⟩; replace hst := hst.call hby; clear hby))
            go_upto_region 32 with (first
              | ((with_reducible refine law_ldx (.tmp 3) ?_ ?_ hst 1 gX T bn ms r s u ?_ ?_ ?_); rfl; rfl; rfl; rfl)
              | ((with_reducible refine law_alx ?_ 11 ?_ ?_ hst ?_); rfl; rfl; rfl; clear hst; intro gHu wx hst; replace hst : St w wx [(gA, aC fr al cr fi ai fo co false hn), (gX, xC T bn ms r s u), (gL, xC T bn ms r s false), (gH, xC T bn ms r s true), (gAl, aC fr al cr fi ai fo co false false), (gAh, aC fr al cr fi ai fo co false true), (gHs, xC T bn ms 0 true u), (gHu, xC (fun _ => 0) 0 0 0 false false)] := hst)
              | ((with_reducible refine law_stx (.tmp 11) (.tmp 60) ?_ ?_ ?_ hst 7 gHu T bn ms r s u (fun _ => 0) 0 0 0 false false ?_ ?_ ?_ ?_); rfl; rfl; rfl; rfl; rfl; rfl; clear hst; intro wx hst; replace hst : St w wx [(gA, aC fr al cr fi ai fo co false hn), (gX, xC T bn ms r s u), (gL, xC T bn ms r s false), (gH, xC T bn ms r s true), (gAl, aC fr al cr fi ai fo co false false), (gAh, aC fr al cr fi ai fo co false true), (gHs, xC T bn ms 0 true u), (gHu, xC T bn ms r s u)] := hst)
              | ((with_reducible refine law_x18 (.tmp 61) (.const (.int .i64 0)) ?_ ?_ ?_ hst 7 gHu T bn ms r s u ?_ ?_ 0 ?_ ?_); rfl; rfl; rfl; rfl; rfl; rfl; clear hst; intro wx hst; replace hst : St w wx [(gA, aC fr al cr fi ai fo co false hn), (gX, xC T bn ms r s u), (gL, xC T bn ms r s false), (gH, xC T bn ms r s true), (gAl, aC fr al cr fi ai fo co false false), (gAh, aC fr al cr fi ai fo co false true), (gHs, xC T bn ms 0 true u), (gHu, xC T bn ms 0 s u)] := hst)
              | ((with_reducible refine law_x20 (.tmp 62) (.const (.bool true)) ?_ ?_ ?_ hst 7 gHu T bn ms 0 s u ?_ ?_ true ?_ ?_); rfl; rfl; rfl; rfl; rfl; rfl; clear hst; intro wx hst; replace hst : St w wx [(gA, aC fr al cr fi ai fo co false hn), (gX, xC T bn ms r s u), (gL, xC T bn ms r s false), (gH, xC T bn ms r s true), (gAl, aC fr al cr fi ai fo co false false), (gAh, aC fr al cr fi ai fo co false true), (gHs, xC T bn ms 0 true u), (gHu, xC T bn ms 0 s true)] := hst)
              | ((with_reducible refine law_lda (.tmp 2) ?_ ?_ hst 0 gA fr al cr fi ai fo co false hn ?_ ?_ ?_); rfl; rfl; rfl; rfl)
              | ((with_reducible refine law_ala ?_ 12 ?_ ?_ hst ?_); rfl; rfl; rfl; clear hst; intro gHn wx hst; replace hst : St w wx [(gA, aC fr al cr fi ai fo co false hn), (gX, xC T bn ms r s u), (gL, xC T bn ms r s false), (gH, xC T bn ms r s true), (gAl, aC fr al cr fi ai fo co false false), (gAh, aC fr al cr fi ai fo co false true), (gHs, xC T bn ms 0 true u), (gHu, xC T bn ms 0 s true), (gHn, aC 0 0 0 0 0 0 0 false false)] := hst)
              | ((with_reducible refine law_sta (.tmp 12) (.tmp 63) ?_ ?_ ?_ hst 8 gHn fr al cr fi ai fo co false hn 0 0 0 0 0 0 0 false false ?_ ?_ ?_ ?_); rfl; rfl; rfl; rfl; rfl; rfl; clear hst; intro wx hst; replace hst : St w wx [(gA, aC fr al cr fi ai fo co false hn), (gX, xC T bn ms r s u), (gL, xC T bn ms r s false), (gH, xC T bn ms r s true), (gAl, aC fr al cr fi ai fo co false false), (gAh, aC fr al cr fi ai fo co false true), (gHs, xC T bn ms 0 true u), (gHu, xC T bn ms 0 s true), (gHn, aC fr al cr fi ai fo co false hn)] := hst)
              | ((with_reducible refine law_a8 (.tmp 64) (.const (.bool true)) ?_ ?_ ?_ hst 8 gHn fr al cr fi ai fo co false hn ?_ ?_ true ?_ ?_); rfl; rfl; rfl; rfl; rfl; rfl; clear hst; intro wx hst; replace hst : St w wx [(gA, aC fr al cr fi ai fo co false hn), (gX, xC T bn ms r s u), (gL, xC T bn ms r s false), (gH, xC T bn ms r s true), (gAl, aC fr al cr fi ai fo co false false), (gAh, aC fr al cr fi ai fo co false true), (gHs, xC T bn ms 0 true u), (gHu, xC T bn ms 0 s true), (gHn, aC fr al cr fi ai fo co false true)] := hst)
              | ((with_reducible refine law_lda (.tmp 12) ?_ ?_ hst 8 gHn fr al cr fi ai fo co false true ?_ ?_ ?_); rfl; rfl; rfl; rfl)
              | ((with_reducible refine law_ldx (.tmp 11) ?_ ?_ hst 7 gHu T bn ms 0 s true ?_ ?_ ?_); rfl; rfl; rfl; rfl)
              | (go_at_call 5; (with_reducible refine (missed_is fr al cr fi ai fo co false true T bn ms 0 s true true (mb_hu _ _ _ _) _).mono ?_); rintro e wy ⟨rfl, hby⟩; replace hst := hst.call hby; clear hby))
            go_wp2_with (first
              | ((with_reducible refine law_ldx (.tmp 3) ?_ ?_ hst 1 gX T bn ms r s u ?_ ?_ ?_); rfl; rfl; rfl; rfl)
              | ((with_reducible refine law_alx ?_ 13 ?_ ?_ hst ?_); rfl; rfl; rfl; clear hst; intro gHh wx hst; replace hst : St w wx [(gA, aC fr al cr fi ai fo co false hn), (gX, xC T bn ms r s u), (gL, xC T bn ms r s false), (gH, xC T bn ms r s true), (gAl, aC fr al cr fi ai fo co false false), (gAh, aC fr al cr fi ai fo co false true), (gHs, xC T bn ms 0 true u), (gHu, xC T bn ms 0 s true), (gHn, aC fr al cr fi ai fo co false true), (gHh, xC (fun _ => 0) 0 0 0 false false)] := hst)
              | ((with_reducible refine law_stx (.tmp 13) (.tmp 69) ?_ ?_ ?_ hst 9 gHh T bn ms r s u (fun _ => 0) 0 0 0 false false ?_ ?_ ?_ ?_); rfl; rfl; rfl; rfl; rfl; rfl; clear hst; intro wx hst; replace hst : St w wx [(gA, aC fr al cr fi ai fo co false hn), (gX, xC T bn ms r s u), (gL, xC T bn ms r s false), (gH, xC T bn ms r s true), (gAl, aC fr al cr fi ai fo co false false), (gAh, aC fr al cr fi ai fo co false true), (gHs, xC T bn ms 0 true u), (gHu, xC T bn ms 0 s true), (gHn, aC fr al cr fi ai fo co false true), (gHh, xC T bn ms r s u)] := hst)
              | ((with_reducible refine law_x18 (.tmp 70) (.const (.int .i64 0)) ?_ ?_ ?_ hst 9 gHh T bn ms r s u ?_ ?_ 0 ?_ ?_); rfl; rfl; rfl; rfl; rfl; rfl; clear hst; intro wx hst; replace hst : St w wx [(gA, aC fr al cr fi ai fo co false hn), (gX, xC T bn ms r s u), (gL, xC T bn ms r s false), (gH, xC T bn ms r s true), (gAl, aC fr al cr fi ai fo co false false), (gAh, aC fr al cr fi ai fo co false true), (gHs, xC T bn ms 0 true u), (gHu, xC T bn ms 0 s true), (gHn, aC fr al cr fi ai fo co false true), (gHh, xC T bn ms 0 s u)] := hst)
              | ((with_reducible refine law_l7 (.tmp 71) ?_ ?_ hst 0 gA fr al cr fi ai fo co false hn ?_ ?_ ?_); rfl; rfl; rfl; rfl)
              | ((with_reducible refine law_l2 (.tmp 75) ?_ ?_ hst 0 gA fr al cr fi ai fo co false hn ?_ ?_ ?_); rfl; rfl; rfl; rfl)
              | ((with_reducible refine law_lda (.tmp 2) ?_ ?_ hst 0 gA fr al cr fi ai fo co false hn ?_ ?_ ?_); rfl; rfl; rfl; rfl)
              | ((with_reducible refine law_x19 (.tmp 83) (.const (.bool false)) ?_ ?_ ?_ hst 9 gHh T bn ms 0 s u ?_ ?_ false ?_ ?_); rfl; rfl; rfl; rfl; rfl; rfl; clear hst; intro wx hst; replace hst : St w wx [(gA, aC fr al cr fi ai fo co false hn), (gX, xC T bn ms r s u), (gL, xC T bn ms r s false), (gH, xC T bn ms r s true), (gAl, aC fr al cr fi ai fo co false false), (gAh, aC fr al cr fi ai fo co false true), (gHs, xC T bn ms 0 true u), (gHu, xC T bn ms 0 s true), (gHn, aC fr al cr fi ai fo co false true), (gHh, xC T bn ms 0 false u)] := hst)
              | ((with_reducible refine law_x20 (.tmp 84) (.const (.bool false)) ?_ ?_ ?_ hst 9 gHh T bn ms 0 false u ?_ ?_ false ?_ ?_); rfl; rfl; rfl; rfl; rfl; rfl; clear hst; intro wx hst; replace hst : St w wx [(gA, aC fr al cr fi ai fo co false hn), (gX, xC T bn ms r s u), (gL, xC T bn ms r s false), (gH, xC T bn ms r s true), (gAl, aC fr al cr fi ai fo co false false), (gAh, aC fr al cr fi ai fo co false true), (gHs, xC T bn ms 0 true u), (gHu, xC T bn ms 0 s true), (gHn, aC fr al cr fi ai fo co false true), (gHh, xC T bn ms 0 false false)] := hst)
              | ((with_reducible refine law_ldx (.tmp 13) ?_ ?_ hst 9 gHh T bn ms 0 false false ?_ ?_ ?_); rfl; rfl; rfl; rfl)
              | (go_at_call 5; (with_reducible refine (missed_is fr al cr fi ai fo co false hn T bn ms 0 false false false (mb_one1 _ _ _ k1) _).mono ?_); rintro e wy ⟨rfl, hby⟩; replace hst := hst.call hby; clear hby)
              | ((with_reducible refine law_l7 (.tmp 88) ?_ ?_ hst 0 gA fr al cr fi ai fo co false hn ?_ ?_ ?_); rfl; rfl; rfl; rfl)
              | ((with_reducible refine law_l2 (.tmp 91) ?_ ?_ hst 0 gA fr al cr fi ai fo co false hn ?_ ?_ ?_); rfl; rfl; rfl; rfl)
              | ((with_reducible refine law_l18 (.tmp 96) ?_ ?_ hst 1 gX T bn ms r s u ?_ ?_ ?_); rfl; rfl; rfl; rfl))
            go_ret
            exact ⟨rfl, hst.below⟩
        · by_cases k : cr = 0
          · have k1 : (cr == 0) = true := by simpa using k
            clear k
            by_cases kr : r = 0
            · have k2 : (r != 0) = false := by simpa using kr
              clear kr
              go_upto_region 25 with (first
                | ((with_reducible refine law_ldx (.tmp 3) ?_ ?_ hst 1 gX T bn ms r s u ?_ ?_ ?_); rfl; rfl; rfl; rfl)
                | ((with_reducible refine law_alx ?_ 10 ?_ ?_ hst ?_); rfl; rfl; rfl; clear hst; intro gHs wx hst; replace hst : St w wx [(gA, aC fr al cr fi ai fo co true hn), (gX, xC T bn ms r s u), (gL, xC T bn ms r s false), (gH, xC T bn ms r s true), (gAl, aC fr al cr fi ai fo co true false), (gAh, aC fr al cr fi ai fo co true true), (gHs, xC (fun _ => 0) 0 0 0 false false)] := hst)
                | ((with_reducible refine law_stx (.tmp 10) (.tmp 53) ?_ ?_ ?_ hst 6 gHs T bn ms r s u (fun _ => 0) 0 0 0 false false ?_ ?_ ?_ ?_); rfl; rfl; rfl; rfl; rfl; rfl; clear hst; intro wx hst; replace hst : St w wx [(gA, aC fr al cr fi ai fo co true hn), (gX, xC T bn ms r s u), (gL, xC T bn ms r s false), (gH, xC T bn ms r s true), (gAl, aC fr al cr fi ai fo co true false), (gAh, aC fr al cr fi ai fo co true true), (gHs, xC T bn ms r s u)] := hst)
                | ((with_reducible refine law_x18 (.tmp 54) (.const (.int .i64 0)) ?_ ?_ ?_ hst 6 gHs T bn ms r s u ?_ ?_ 0 ?_ ?_); rfl; rfl; rfl; rfl; rfl; rfl; clear hst; intro wx hst; replace hst : St w wx [(gA, aC fr al cr fi ai fo co true hn), (gX, xC T bn ms r s u), (gL, xC T bn ms r s false), (gH, xC T bn ms r s true), (gAl, aC fr al cr fi ai fo co true false), (gAh, aC fr al cr fi ai fo co true true), (gHs, xC T bn ms 0 s u)] := hst)
                | ((with_reducible refine law_x19 (.tmp 55) (.const (.bool true)) ?_ ?_ ?_ hst 6 gHs T bn ms 0 s u ?_ ?_ true ?_ ?_); rfl; rfl; rfl; rfl; rfl; rfl; clear hst; intro wx hst; replace hst : St w wx [(gA, aC fr al cr fi ai fo co true hn), (gX, xC T bn ms r s u), (gL, xC T bn ms r s false), (gH, xC T bn ms r s true), (gAl, aC fr al cr fi ai fo co true false), (gAh, aC fr al cr fi ai fo co true true), (gHs, xC T bn ms 0 true u)] := hst)
                | ((with_reducible refine law_lda (.tmp 2) ?_ ?_ hst 0 gA fr al cr fi ai fo co true hn ?_ ?_ ?_); rfl; rfl; rfl; rfl)
                | ((with_reducible refine law_ldx (.tmp 10) ?_ ?_ hst 6 gHs T bn ms 0 true u ?_ ?_ ?_); rfl; rfl; rfl; rfl)
                | (go_at_call 5; (with_reducible refine (missed_is fr al cr fi ai fo co true hn T bn ms 0 true u true (mb_hs _ _ _ _ _) _).mono ?_); rintro e wy ⟨rfl, hby⟩; replace hst := hst.call hby; clear hby))
              go_upto_region 32 with (first
                | ((with_reducible refine law_ldx (.tmp 3) ?_ ?_ hst 1 gX T bn ms r s u ?_ ?_ ?_); rfl; rfl; rfl; rfl)
                | ((with_reducible refine law_alx ?_ 11 ?_ ?_ hst ?_); rfl; rfl; rfl; clear hst; intro gHu wx hst; replace hst : St w wx [(gA, aC fr al cr fi ai fo co true hn), (gX, xC T bn ms r s u), (gL, xC T bn ms r s false), (gH, xC T bn ms r s true), (gAl, aC fr al cr fi ai fo co true false), (gAh, aC fr al cr fi ai fo co true true), (gHs, xC T bn ms 0 true u), (gHu, xC (fun _ => 0) 0 0 0 false false)] := hst)
                | ((with_reducible refine law_stx (.tmp 11) (.tmp 60) ?_ ?_ ?_ hst 7 gHu T bn ms r s u (fun _ => 0) 0 0 0 false false ?_ ?_ ?_ ?_); rfl; rfl; rfl; rfl; rfl; rfl; clear hst; intro wx hst; replace hst : St w wx [(gA, aC fr al cr fi ai fo co true hn), (gX, xC T bn ms r s u), (gL, xC T bn ms r s false), (gH, xC T bn ms r s true), (gAl, aC fr al cr fi ai fo co true false), (gAh, aC fr al cr fi ai fo co true true), (gHs, xC T bn ms 0 true u), (gHu, xC T bn ms r s u)] := hst)
                | ((with_reducible refine law_x18 (.tmp 61) (.const (.int .i64 0)) ?_ ?_ ?_ hst 7 gHu T bn ms r s u ?_ ?_ 0 ?_ ?_); rfl; rfl; rfl; rfl; rfl; rfl; clear hst; intro wx hst; replace hst : St w wx [(gA, aC fr al cr fi ai fo co true hn), (gX, xC T bn ms r s u), (gL, xC T bn ms r s false), (gH, xC T bn ms r s true), (gAl, aC fr al cr fi ai fo co true false), (gAh, aC fr al cr fi ai fo co true true), (gHs, xC T bn ms 0 true u), (gHu, xC T bn ms 0 s u)] := hst)
                | ((with_reducible refine law_x20 (.tmp 62) (.const (.bool true)) ?_ ?_ ?_ hst 7 gHu T bn ms 0 s u ?_ ?_ true ?_ ?_); rfl; rfl; rfl; rfl; rfl; rfl; clear hst; intro wx hst; replace hst : St w wx [(gA, aC fr al cr fi ai fo co true hn), (gX, xC T bn ms r s u), (gL, xC T bn ms r s false), (gH, xC T bn ms r s true), (gAl, aC fr al cr fi ai fo co true false), (gAh, aC fr al cr fi ai fo co true true), (gHs, xC T bn ms 0 true u), (gHu, xC T bn ms 0 s true)] := hst)
                | ((with_reducible refine law_lda (.tmp 2) ?_ ?_ hst 0 gA fr al cr fi ai fo co true hn ?_ ?_ ?_); rfl; rfl; rfl; rfl)
                | ((with_reducible refine law_ala ?_ 12 ?_ ?_ hst ?_); rfl; rfl; rfl; clear hst; intro gHn wx hst; replace hst : St w wx [(gA, aC fr al cr fi ai fo co true hn), (gX, xC T bn ms r s u), (gL, xC T bn ms r s false), (gH, xC T bn ms r s true), (gAl, aC fr al cr fi ai fo co true false), (gAh, aC fr al cr fi ai fo co true true), (gHs, xC T bn ms 0 true u), (gHu, xC T bn ms 0 s true), (gHn, aC 0 0 0 0 0 0 0 false false)] := hst)
                | ((with_reducible refine law_sta (.tmp 12) (.tmp 63) ?_ ?_ ?_ hst 8 gHn fr al cr fi ai fo co true hn 0 0 0 0 0 0 0 false false ?_ ?_ ?_ ?_); rfl; rfl; rfl; rfl; rfl; rfl; clear hst; intro wx hst; replace hst : St w wx [(gA, aC fr al cr fi ai fo co true hn), (gX, xC T bn ms r s u), (gL, xC T bn ms r s false), (gH, xC T bn ms r s true), (gAl, aC fr al cr fi ai fo co true false), (gAh, aC fr al cr fi ai fo co true true), (gHs, xC T bn ms 0 true u), (gHu, xC T bn ms 0 s true), (gHn, aC fr al cr fi ai fo co true hn)] := hst)
                | ((with_reducible refine law_a8 (.tmp 64) (.const (.bool true)) ?_ ?_ ?_ hst 8 gHn fr al cr fi ai fo co true hn ?_ ?_ true ?_ ?_); rfl; rfl; rfl; rfl; rfl; rfl; clear hst; intro wx hst; replace hst : St w wx [(gA, aC fr al cr fi ai fo co true hn), (gX, xC T bn ms r s u), (gL, xC T bn ms r s false), (gH, xC T bn ms r s true), (gAl, aC fr al cr fi ai fo co true false), (gAh, aC fr al cr fi ai fo co true true), (gHs, xC T bn ms 0 true u), (gHu, xC T bn ms 0 s true), (gHn, aC fr al cr fi ai fo co true true)] := hst)
                | ((with_reducible refine law_lda (.tmp 12) ?_ ?_ hst 8 gHn fr al cr fi ai fo co true true ?_ ?_ ?_); rfl; rfl; rfl; rfl)
                | ((with_reducible refine law_ldx (.tmp 11) ?_ ?_ hst 7 gHu T bn ms 0 s true ?_ ?_ ?_); rfl; rfl; rfl; rfl)
                | (go_at_call 5; (with_reducible refine (missed_is fr al cr fi ai fo co true true T bn ms 0 s true true (mb_hu _ _ _ _) _).mono ?_); rintro e wy ⟨rfl, hby⟩; replace hst := hst.call hby; clear hby))
              go_wp2_with (first
                | ((with_reducible refine law_ldx (.tmp 3) ?_ ?_ hst 1 gX T bn ms r s u ?_ ?_ ?_); rfl; rfl; rfl; rfl)
                | ((with_reducible refine law_alx ?_ 13 ?_ ?_ hst ?_); rfl; rfl; rfl; clear hst; intro gHh wx hst; replace hst : St w wx [(gA, aC fr al cr fi ai fo co true hn), (gX, xC T bn ms r s u), (gL, xC T bn ms r s false), (gH, xC T bn ms r s true), (gAl, aC fr al cr fi ai fo co true false), (gAh, aC fr al cr fi ai fo co true true), (gHs, xC T bn ms 0 true u), (gHu, xC T bn ms 0 s true), (gHn, aC fr al cr fi ai fo co true true), (gHh, xC (fun _ => 0) 0 0 0 false false)] := hst)
                | ((with_reducible refine law_stx (.tmp 13) (.tmp 69) ?_ ?_ ?_ hst 9 gHh T bn ms r s u (fun _ => 0) 0 0 0 false false ?_ ?_ ?_ ?_); rfl; rfl; rfl; rfl; rfl; rfl; clear hst; intro wx hst; replace hst : St w wx [(gA, aC fr al cr fi ai fo co true hn), (gX, xC T bn ms r s u), (gL, xC T bn ms r s false), (gH, xC T bn ms r s true), (gAl, aC fr al cr fi ai fo co true false), (gAh, aC fr al cr fi ai fo co true true), (gHs, xC T bn ms 0 true u), (gHu, xC T bn ms 0 s true), (gHn, aC fr al cr fi ai fo co true true), (gHh, xC T bn ms r s u)] := hst)
                | ((with_reducible refine law_x18 (.tmp 70) (.const (.int .i64 0)) ?_ ?_ ?_ hst 9 gHh T bn ms r s u ?_ ?_ 0 ?_ ?_); rfl; rfl; rfl; rfl; rfl; rfl; clear hst; intro wx hst; replace hst : St w wx [(gA, aC fr al cr fi ai fo co true hn), (gX, xC T bn ms r s u), (gL, xC T bn ms r s false), (gH, xC T bn ms r s true), (gAl, aC fr al cr fi ai fo co true false), (gAh, aC fr al cr fi ai fo co true true), (gHs, xC T bn ms 0 true u), (gHu, xC T bn ms 0 s true), (gHn, aC fr al cr fi ai fo co true true), (gHh, xC T bn ms 0 s u)] := hst)
                | ((with_reducible refine law_l7 (.tmp 71) ?_ ?_ hst 0 gA fr al cr fi ai fo co true hn ?_ ?_ ?_); rfl; rfl; rfl; rfl)
                | ((with_reducible refine law_l2 (.tmp 75) ?_ ?_ hst 0 gA fr al cr fi ai fo co true hn ?_ ?_ ?_); rfl; rfl; rfl; rfl)
                | ((with_reducible refine law_lda (.tmp 2) ?_ ?_ hst 0 gA fr al cr fi ai fo co true hn ?_ ?_ ?_); rfl; rfl; rfl; rfl)
                | ((with_reducible refine law_x19 (.tmp 83) (.const (.bool false)) ?_ ?_ ?_ hst 9 gHh T bn ms 0 s u ?_ ?_ false ?_ ?_); rfl; rfl; rfl; rfl; rfl; rfl; clear hst; intro wx hst; replace hst : St w wx [(gA, aC fr al cr fi ai fo co true hn), (gX, xC T bn ms r s u), (gL, xC T bn ms r s false), (gH, xC T bn ms r s true), (gAl, aC fr al cr fi ai fo co true false), (gAh, aC fr al cr fi ai fo co true true), (gHs, xC T bn ms 0 true u), (gHu, xC T bn ms 0 s true), (gHn, aC fr al cr fi ai fo co true true), (gHh, xC T bn ms 0 false u)] := hst)
                | ((with_reducible refine law_x20 (.tmp 84) (.const (.bool false)) ?_ ?_ ?_ hst 9 gHh T bn ms 0 false u ?_ ?_ false ?_ ?_); rfl; rfl; rfl; rfl; rfl; rfl; clear hst; intro wx hst; replace hst : St w wx [(gA, aC fr al cr fi ai fo co true hn), (gX, xC T bn ms r s u), (gL, xC T bn ms r s false), (gH, xC T bn ms r s true), (gAl, aC fr al cr fi ai fo co true false), (gAh, aC fr al cr fi ai fo co true true), (gHs, xC T bn ms 0 true u), (gHu, xC T bn ms 0 s true), (gHn, aC fr al cr fi ai fo co true true), (gHh, xC T bn ms 0 false false)] := hst)
                | ((with_reducible refine law_ldx (.tmp 13) ?_ ?_ hst 9 gHh T bn ms 0 false false ?_ ?_ ?_); rfl; rfl; rfl; rfl)
                | (go_at_call 5; (with_reducible refine (missed_is fr al cr fi ai fo co true hn T bn ms 0 false false false (mb_one2 _ _ _) _).mono ?_); rintro e wy ⟨rfl, hby⟩; replace hst := hst.call hby; clear hby)
                | ((with_reducible refine law_l7 (.tmp 88) ?_ ?_ hst 0 gA fr al cr fi ai fo co true hn ?_ ?_ ?_); rfl; rfl; rfl; rfl)
                | ((with_reducible refine law_l2 (.tmp 91) ?_ ?_ hst 0 gA fr al cr fi ai fo co true hn ?_ ?_ ?_); rfl; rfl; rfl; rfl)
                | ((with_reducible refine law_l18 (.tmp 96) ?_ ?_ hst 1 gX T bn ms r s u ?_ ?_ ?_); rfl; rfl; rfl; rfl))
              go_ret
              exact ⟨rfl, hst.below⟩
            · have k2 : (r != 0) = true := by simpa using kr
              clear kr
              go_upto_region 25 with (first
                | ((with_reducible refine law_ldx (.tmp 3) ?_ ?_ hst 1 gX T bn ms r s u ?_ ?_ ?_); rfl; rfl; rfl; rfl)
                | ((with_reducible refine law_alx ?_ 10 ?_ ?_ hst ?_); rfl; rfl; rfl; clear hst; intro gHs wx hst; replace hst : St w wx [(gA, aC fr al cr fi ai fo co true hn), (gX, xC T bn ms r s u), (gL, xC T bn ms r s false), (gH, xC T bn ms r s true), (gAl, aC fr al cr fi ai fo co true false), (gAh, aC fr al cr fi ai fo co true true), (gHs, xC (fun _ => 0) 0 0 0 false false)] := hst)
                | ((with_reducible refine law_stx (.tmp 10) (.tmp 53) ?_ ?_ ?_ hst 6 gHs T bn ms r s u (fun _ => 0) 0 0 0 false false ?_ ?_ ?_ ?_); rfl; rfl; rfl; rfl; rfl; rfl; clear hst; intro wx hst; replace hst : St w wx [(gA, aC fr al cr fi ai fo co true hn), (gX, xC T bn ms r s u), (gL, xC T bn ms r s false), (gH, xC T bn ms r s true), (gAl, aC fr al cr fi ai fo co true false), (gAh, aC fr al cr fi ai fo co true true), (gHs, xC T bn ms r s u)] := hst)
                | ((with_reducible refine law_x18 (.tmp 54) (.const (.int .i64 0)) ?_ ?_ ?_ hst 6 gHs T bn ms r s u ?_ ?_ 0 ?_ ?_); rfl; rfl; rfl; rfl; rfl; rfl; clear hst; intro wx hst; replace hst : St w wx [(gA, aC fr al cr fi ai fo co true hn), (gX, xC T bn ms r s u), (gL, xC T bn ms r s false), (gH, xC T bn ms r s true), (gAl, aC fr al cr fi ai fo co true false), (gAh, aC fr al cr fi ai fo co true true), (gHs, xC T bn ms 0 s u)] := hst)
                | ((with_reducible refine law_x19 (.tmp 55) (.const (.bool true)) ?_ ?_ ?_ hst 6 gHs T bn ms 0 s u ?_ ?_ true ?_ ?_); rfl; rfl; rfl; rfl; rfl; rfl; clear hst; intro wx hst; replace hst : St w wx [(gA, aC fr al cr fi ai fo co true hn), (gX, xC T bn ms r s u), (gL, xC T bn ms r s false), (gH, xC T bn ms r s true), (gAl, aC fr al cr fi ai fo co true false), (gAh, aC fr al cr fi ai fo co true true), (gHs, xC T bn ms 0 true u)] := hst)
                | ((with_reducible refine law_lda (.tmp 2) ?_ ?_ hst 0 gA fr al cr fi ai fo co true hn ?_ ?_ ?_); rfl; rfl; rfl; rfl)
                | ((with_reducible refine law_ldx (.tmp 10) ?_ ?_ hst 6 gHs T bn ms 0 true u ?_ ?_ ?_); rfl; rfl; rfl; rfl)
                | (go_at_call 5; (with_reducible refine (missed_is fr al cr fi ai fo co true hn T bn ms 0 true u true (mb_hs _ _ _ _ _) _).mono ?_); rintro e wy ⟨rfl, hby⟩; replace hst := hst.call hby; clear hby))
              go_upto_region 32 with (first
                | ((with_reducible refine law_ldx (.tmp 3) ?_ ?_ hst 1 gX T bn ms r s u ?_ ?_ ?_); rfl; rfl; rfl; rfl)
                | ((with_reducible refine law_alx ?_ 11 ?_ ?_ hst ?_); rfl; rfl; rfl; clear hst; intro gHu wx hst; replace hst : St w wx [(gA, aC fr al cr fi ai fo co true hn), (gX, xC T bn ms r s u), (gL, xC T bn ms r s false), (gH, xC T bn ms r s true), (gAl, aC fr al cr fi ai fo co true false), (gAh, aC fr al cr fi ai fo co true true), (gHs, xC T bn ms 0 true u), (gHu, xC (fun _ => 0) 0 0 0 false false)] := hst)
                | ((with_reducible refine law_stx (.tmp 11) (.tmp 60) ?_ ?_ ?_ hst 7 gHu T bn ms r s u (fun _ => 0) 0 0 0 false false ?_ ?_ ?_ ?_); rfl; rfl; rfl; rfl; rfl; rfl; clear hst; intro wx hst; replace hst : St w wx [(gA, aC fr al cr fi ai fo co true hn), (gX, xC T bn ms r s u), (gL, xC T bn ms r s false), (gH, xC T bn ms r s true), (gAl, aC fr al cr fi ai fo co true false), (gAh, aC fr al cr fi ai fo co true true), (gHs, xC T bn ms 0 true u), (gHu, xC T bn ms r s u)] := hst)
                | ((with_reducible refine law_x18 (.tmp 61) (.const (.int .i64 0)) ?_ ?_ ?_ hst 7 gHu T bn ms r s u ?_ ?_ 0 ?_ ?_); rfl; rfl; rfl; rfl; rfl; rfl; clear hst; intro wx hst; replace hst : St w wx [(gA, aC fr al cr fi ai fo co true hn), (gX, xC T bn ms r s u), (gL, xC T bn ms r s false), (gH, xC T bn ms r s true), (gAl, aC fr al cr fi ai fo co true false), (gAh, aC fr al cr fi ai fo co true true), (gHs, xC T bn ms 0 true u), (gHu, xC T bn ms 0 s u)] := hst)
                | ((with_reducible refine law_x20 (.tmp 62) (.const (.bool true)) ?_ ?_ ?_ hst 7 gHu T bn ms 0 s u ?_ ?_ true ?_ ?_); rfl; rfl; rfl; rfl; rfl; rfl; clear hst; intro wx hst; replace hst : St w wx [(gA, aC fr al cr fi ai fo co true hn), (gX, xC T bn ms r s u), (gL, xC T bn ms r s false), (gH, xC T bn ms r s true), (gAl, aC fr al cr fi ai fo co true false), (gAh, aC fr al cr fi ai fo co true true), (gHs, xC T bn ms 0 true u), (gHu, xC T bn ms 0 s true)] := hst)
                | ((with_reducible refine law_lda (.tmp 2) ?_ ?_ hst 0 gA fr al cr fi ai fo co true hn ?_ ?_ ?_); rfl; rfl; rfl; rfl)
                | ((with_reducible refine law_ala ?_ 12 ?_ ?_ hst ?_); rfl; rfl; rfl; clear hst; intro gHn wx hst; replace hst : St w wx [(gA, aC fr al cr fi ai fo co true hn), (gX, xC T bn ms r s u), (gL, xC T bn ms r s false), (gH, xC T bn ms r s true), (gAl, aC fr al cr fi ai fo co true false), (gAh, aC fr al cr fi ai fo co true true), (gHs, xC T bn ms 0 true u), (gHu, xC T bn ms 0 s true), (gHn, aC 0 0 0 0 0 0 0 false false)] := hst)
                | ((with_reducible refine law_sta (.tmp 12) (.tmp 63) ?_ ?_ ?_ hst 8 gHn fr al cr fi ai fo co true hn 0 0 0 0 0 0 0 false false ?_ ?_ ?_ ?_); rfl; rfl; rfl; rfl; rfl; rfl; clear hst; intro wx hst; replace hst : St w wx [(gA, aC fr al cr fi ai fo co true hn), (gX, xC T bn ms r s u), (gL, xC T bn ms r s false), (gH, xC T bn ms r s true), (gAl, aC fr al cr fi ai fo co true false), (gAh, aC fr al cr fi ai fo co true true), (gHs, xC T bn ms 0 true u), (gHu, xC T bn ms 0 s true), (gHn, aC fr al cr fi ai fo co true hn)] := hst)
                | ((with_reducible refine law_a8 (.tmp 64) (.const (.bool true)) ?_ ?_ ?_ hst 8 gHn fr al cr fi ai fo co true hn ?_ ?_ true ?_ ?_); rfl; rfl; rfl; rfl; rfl; rfl; clear hst; intro wx hst; replace hst : St w wx [(gA, aC fr al cr fi ai fo co true hn), (gX, xC T bn ms r s u), (gL, xC T bn ms r s false), (gH, xC T bn ms r s true), (gAl, aC fr al cr fi ai fo co true false), (gAh, aC fr al cr fi ai fo co true true), (gHs, xC T bn ms 0 true u), (gHu, xC T bn ms 0 s true), (gHn, aC fr al cr fi ai fo co true true)] := hst)
                | ((with_reducible refine law_lda (.tmp 12) ?_ ?_ hst 8 gHn fr al cr fi ai fo co true true ?_ ?_ ?_); rfl; rfl; rfl; rfl)
                | ((with_reducible refine law_ldx (.tmp 11) ?_ ?_ hst 7 gHu T bn ms 0 s true ?_ ?_ ?_); rfl; rfl; rfl; rfl)
                | (go_at_call 5; (with_reducible refine (missed_is fr al cr fi ai fo co true true T bn ms 0 s true true (mb_hu _ _ _ _) _).mono ?_); rintro e wy ⟨rfl, hby⟩; replace hst := hst.call hby; clear hby))
              go_wp2_with (first
                | ((with_reducible refine law_ldx (.tmp 3) ?_ ?_ hst 1 gX T bn ms r s u ?_ ?_ ?_); rfl; rfl; rfl; rfl)
                | ((with_reducible refine law_alx ?_ 13 ?_ ?_ hst ?_); rfl; rfl; rfl; clear hst; intro gHh wx hst; replace hst : St w wx [(gA, aC fr al cr fi ai fo co true hn), (gX, xC T bn ms r s u), (gL, xC T bn ms r s false), (gH, xC T bn ms r s true), (gAl, aC fr al cr fi ai fo co true false), (gAh, aC fr al cr fi ai fo co true true), (gHs, xC T bn ms 0 true u), (gHu, xC T bn ms 0 s true), (gHn, aC fr al cr fi ai fo co true true), (gHh, xC (fun _ => 0) 0 0 0 false false)] := hst)
                | ((with_reducible refine law_stx (.tmp 13) (.tmp 69) ?_ ?_ ?_ hst 9 gHh T bn ms r s u (fun _ => 0) 0 0 0 false false ?_ ?_ ?_ ?_); rfl; rfl; rfl; rfl; rfl; rfl; clear hst; intro wx hst; replace hst : St w wx [(gA, aC fr al cr fi ai fo co true hn), (gX, xC T bn ms r s u), (gL, xC T bn ms r s false), (gH, xC T bn ms r s true), (gAl, aC fr al cr fi ai fo co true false), (gAh, aC fr al cr fi ai fo co true true), (gHs, xC T bn ms 0 true u), (gHu, xC T bn ms 0 s true), (gHn, aC fr al cr fi ai fo co true true), (gHh, xC T bn ms r s u)] := hst)
                | ((with_reducible refine law_x18 (.tmp 70) (.const (.int .i64 0)) ?_ ?_ ?_ hst 9 gHh T bn ms r s u ?_ ?_ 0 ?_ ?_); rfl; rfl; rfl; rfl; rfl; rfl; clear hst; intro wx hst; replace hst : St w wx [(gA, aC fr al cr fi ai fo co true hn), (gX, xC T bn ms r s u), (gL, xC T bn ms r s false), (gH, xC T bn ms r s true), (gAl, aC fr al cr fi ai fo co true false), (gAh, aC fr al cr fi ai fo co true true), (gHs, xC T bn ms 0 true u), (gHu, xC T bn ms 0 s true), (gHn, aC fr al cr fi ai fo co true true), (gHh, xC T bn ms 0 s u)] := hst)
                | ((with_reducible refine law_l7 (.tmp 71) ?_ ?_ hst 0 gA fr al cr fi ai fo co true hn ?_ ?_ ?_); rfl; rfl; rfl; rfl)
                | ((with_reducible refine law_l2 (.tmp 75) ?_ ?_ hst 0 gA fr al cr fi ai fo co true hn ?_ ?_ ?_); rfl; rfl; rfl; rfl)
                | ((with_reducible refine law_lda (.tmp 2) ?_ ?_ hst 0 gA fr al cr fi ai fo co true hn ?_ ?_ ?_); rfl; rfl; rfl; rfl)
                | ((with_reducible refine law_x19 (.tmp 83) (.const (.bool false)) ?_ ?_ ?_ hst 9 gHh T bn ms 0 s u ?_ ?_ false ?_ ?_); rfl; rfl; rfl; rfl; rfl; rfl; clear hst; intro wx hst; replace hst : St w wx [(gA, aC fr al cr fi ai fo co true hn), (gX, xC T bn ms r s u), (gL, xC T bn ms r s false), (gH, xC T bn ms r s true), (gAl, aC fr al cr fi ai fo co true false), (gAh, aC fr al cr fi ai fo co true true), (gHs, xC T bn ms 0 true u), (gHu, xC T bn ms 0 s true), (gHn, aC fr al cr fi ai fo co true true), (gHh, xC T bn ms 0 false u)] := hst)
                | ((with_reducible refine law_x20 (.tmp 84) (.const (.bool false)) ?_ ?_ ?_ hst 9 gHh T bn ms 0 false u ?_ ?_ false ?_ ?_); rfl; rfl; rfl; rfl; rfl; rfl; clear hst; intro wx hst; replace hst : St w wx [(gA, aC fr al cr fi ai fo co true hn), (gX, xC T bn ms r s u), (gL, xC T bn ms r s false), (gH, xC T bn ms r s true), (gAl, aC fr al cr fi ai fo co true false), (gAh, aC fr al cr fi ai fo co true true), (gHs, xC T bn ms 0 true u), (gHu, xC T bn ms 0 s true), (gHn, aC fr al cr fi ai fo co true true), (gHh, xC T bn ms 0 false false)] := hst)
                | ((with_reducible refine law_ldx (.tmp 13) ?_ ?_ hst 9 gHh T bn ms 0 false false ?_ ?_ ?_); rfl; rfl; rfl; rfl)
                | (go_at_call 5; (with_reducible refine (missed_is fr al cr fi ai fo co true hn T bn ms 0 false false false (mb_one2 _ _ _) _).mono ?_); rintro e wy ⟨rfl, hby⟩; replace hst := hst.call hby; clear hby)
                | ((with_reducible refine law_l7 (.tmp 88) ?_ ?_ hst 0 gA fr al cr fi ai fo co true hn ?_ ?_ ?_); rfl; rfl; rfl; rfl)
                | ((with_reducible refine law_l2 (.tmp 91) ?_ ?_ hst 0 gA fr al cr fi ai fo co true hn ?_ ?_ ?_); rfl; rfl; rfl; rfl)
                | ((with_reducible refine law_l18 (.tmp 96) ?_ ?_ hst 1 gX T bn ms r s u ?_ ?_ ?_); rfl; rfl; rfl; rfl)
                | (go_at_call 5; (with_reducible refine (missed_is fr al cr fi ai fo co true hn T bn ms r s u false (mb_ret _ _ _ _ _ _ k1 k2) _).mono ?_); rintro e wy ⟨rfl, hby⟩; replace hst := hst.call hby; clear hby))
              go_ret
              exact ⟨rfl, hst.below⟩
          · have k1 : (cr == 0) = false := by simpa using k
            clear k
            go_upto_region 25 with (first
              | ((with_reducible refine law_ldx (.tmp 3) ?_ ?_ hst 1 gX T bn ms r s u ?_ ?_ ?_); rfl; rfl; rfl; rfl)
              | ((with_reducible refine law_alx ?_ 10 ?_ ?_ hst ?_); rfl; rfl; rfl; clear hst; intro gHs wx hst; replace hst : St w wx [(gA, aC fr al cr fi ai fo co true hn), (gX, xC T bn ms r s u), (gL, xC T bn ms r s false), (gH, xC T bn ms r s true), (gAl, aC fr al cr fi ai fo co true false), (gAh, aC fr al cr fi ai fo co true true), (gHs, xC (fun _ => 0) 0 0 0 false false)] := hst)
              | ((with_reducible refine law_stx (.tmp 10) (.tmp 53) ?_ ?_ ?_ hst 6 gHs T bn ms r s u (fun _ => 0) 0 0 0 false false ?_ ?_ ?_ ?_); rfl; rfl; rfl; rfl; rfl; rfl; clear hst; intro wx hst; replace hst : St w wx [(gA, aC fr al cr fi ai fo co true hn), (gX, xC T bn ms r s u), (gL, xC T bn ms r s false), (gH, xC T bn ms r s true), (gAl, aC fr al cr fi ai fo co true false), (gAh, aC fr al cr fi ai fo co true true), (gHs, xC T bn ms r s u)] := hst)
              | ((with_reducible refine law_x18 (.tmp 54) (.const (.int .i64 0)) ?_ ?_ ?_ hst 6 gHs T bn ms r s u ?_ ?_ 0 ?_ ?_); rfl; rfl; rfl; rfl; rfl; rfl; clear hst; intro wx hst; replace hst : St w wx [(gA, aC fr al cr fi ai fo co true hn), (gX, xC T bn ms r s u), (gL, xC T bn ms r s false), (gH, xC T bn ms r s true), (gAl, aC fr al cr fi ai fo co true false), (gAh, aC fr al cr fi ai fo co true true), (gHs, xC T bn ms 0 s u)] := hst)
              | ((with_reducible refine law_x19 (.tmp 55) (.const (.bool true)) ?_ ?_ ?_ hst 6 gHs T bn ms 0 s u ?_ ?_ true ?_ ?_); rfl; rfl; rfl; rfl; rfl; rfl; clear hst; intro wx hst; replace hst : St w wx [(gA, aC fr al cr fi ai fo co true hn), (gX, xC T bn ms r s u), (gL, xC T bn ms r s false), (gH, xC T bn ms r s true), (gAl, aC fr al cr fi ai fo co true false), (gAh, aC fr al cr fi ai fo co true true), (gHs, xC T bn ms 0 true u)] := hst)
              | ((with_reducible refine law_lda (.tmp 2) ?_ ?_ hst 0 gA fr al cr fi ai fo co true hn ?_ ?_ ?_); rfl; rfl; rfl; rfl)
              | ((with_reducible refine law_ldx (.tmp 10) ?_ ?_ hst 6 gHs T bn ms 0 true u ?_ ?_ ?_); rfl; rfl; rfl; rfl)
              | (go_at_call 5; (with_reducible refine (missed_is fr al cr fi ai fo co true hn T bn ms 0 true u true (mb_hs _ _ _ _ _) _).mono ?_); rintro e wy ⟨rfl, hby⟩; replace hst := hst.call hby; clear hby))
            go_upto_region 32 with (first
              | ((with_reducible refine law_ldx (.tmp 3) ?_ ?_ hst 1 gX T bn ms r s u ?_ ?_ ?_); rfl; rfl; rfl; rfl)
              | ((with_reducible refine law_alx ?_ 11 ?_ ?_ hst ?_); rfl; rfl; rfl; clear hst; intro gHu wx hst; replace hst : St w wx [(gA, aC fr al cr fi ai fo co true hn), (gX, xC T bn ms r s u), (gL, xC T bn ms r s false), (gH, xC T bn ms r s true), (gAl, aC fr al cr fi ai fo co true false), (gAh, aC fr al cr fi ai fo co true true), (gHs, xC T bn ms 0 true u), (gHu, xC (fun _ => 0) 0 0 0 false false)] := hst)
              | ((with_reducible refine law_stx (.tmp 11) (.tmp 60) ?_ ?_ ?_ hst 7 gHu T bn ms r s u (fun _ => 0) 0 0 0 false false ?_ ?_ ?_ ?_); rfl; rfl; rfl; rfl; rfl; rfl; clear hst; intro wx hst; replace hst : St w wx [(gA, aC fr al cr fi ai fo co true hn), (gX, xC T bn ms r s u), (gL, xC T bn ms r s false), (gH, xC T bn ms r s true), (gAl, aC fr al cr fi ai fo co true false), (gAh, aC fr al cr fi ai fo co true true), (gHs, xC T bn ms 0 true u), (gHu, xC T bn ms r s u)] := hst)
              | ((with_reducible refine law_x18 (.tmp 61) (.const (.int .i64 0)) ?_ ?_ ?_ hst 7 gHu T bn ms r s u ?_ ?_ 0 ?_ ?_); rfl; rfl; rfl; rfl; rfl; rfl; clear hst; intro wx hst; replace hst : St w wx [(gA, aC fr al cr fi ai fo co true hn), (gX, xC T bn ms r s u), (gL, xC T bn ms r s false), (gH, xC T bn ms r s true), (gAl, aC fr al cr fi ai fo co true false), (gAh, aC fr al cr fi ai fo co true true), (gHs, xC T bn ms 0 true u), (gHu, xC T bn ms 0 s u)] := hst)
              | ((with_reducible refine law_x20 (.tmp 62) (.const (.bool true)) ?_ ?_ ?_ hst 7 gHu T bn ms 0 s u ?_ ?_ true ?_ ?_); rfl; rfl; rfl; rfl; rfl; rfl; clear hst; intro wx hst; replace hst : St w wx [(gA, aC fr al cr fi ai fo co true hn), (gX, xC T bn ms r s u), (gL, xC T bn ms r s false), (gH, xC T bn ms r s true), (gAl, aC fr al cr fi ai fo co true false), (gAh, aC fr al cr fi ai fo co true true), (gHs, xC T bn ms 0 true u), (gHu, xC T bn ms 0 s true)] := hst)
              | ((with_reducible refine law_lda (.tmp 2) ?_ ?_ hst 0 gA fr al cr fi ai fo co true hn ?_ ?_ ?_); rfl; rfl; rfl; rfl)
              | ((with_reducible refine law_ala ?_ 12 ?_ ?_ hst ?_); rfl; rfl; rfl; clear hst; intro gHn wx hst; replace hst : St w wx [(gA, aC fr al cr fi ai fo co true hn), (gX, xC T bn ms r s u), (gL, xC T bn ms r s false), (gH, xC T bn ms r s true), (gAl, aC fr al cr fi ai fo co true false), (gAh, aC fr al cr fi ai fo co true true), (gHs, xC T bn ms 0 true u), (gHu, xC T bn ms 0 s true), (gHn, aC 0 0 0 0 0 0 0 false false)] := hst)
              | ((with_reducible refine law_sta (.tmp 12) (.tmp 63) ?_ ?_ ?_ hst 8 gHn fr al cr fi ai fo co true hn 0 0 0 0 0 0 0 false false ?_ ?_ ?_ ?_); rfl; rfl; rfl; rfl; rfl; rfl; clear hst; intro wx hst; replace hst : St w wx [(gA, aC fr al cr fi ai fo co true hn), (gX, xC T bn ms r s u), (gL, xC T bn ms r s false), (gH, xC T bn ms r s true), (gAl, aC fr al cr fi ai fo co true false), (gAh, aC fr al cr fi ai fo co true true), (gHs, xC T bn ms 0 true u), (gHu, xC T bn ms 0 s true), (gHn, aC fr al cr fi ai fo co true hn)] := hst)
              | ((with_reducible refine law_a8 (.tmp 64) (.const (.bool true)) ?_ ?_ ?_ hst 8 gHn fr al cr fi ai fo co true hn ?_ ?_ true ?_ ?_); rfl; rfl; rfl; rfl; rfl; rfl; clear hst; intro wx hst; replace hst : St w wx [(gA, aC fr al cr fi ai fo co true hn), (gX, xC T bn ms r s u), (gL, xC T bn ms r s false), (gH, xC T bn ms r s true), (gAl, aC fr al cr fi ai fo co true false), (gAh, aC fr al cr fi ai fo co true true), (gHs, xC T bn ms 0 true u), (gHu, xC T bn ms 0 s true), (gHn, aC fr al cr fi ai fo co true true)] := hst)
              | ((with_reducible refine law_lda (.tmp 12) ?_ ?_ hst 8 gHn fr al cr fi ai fo co true true ?_ ?_ ?_); rfl; rfl; rfl; rfl)
              | ((with_reducible refine law_ldx (.tmp 11) ?_ ?_ hst 7 gHu T bn ms 0 s true ?_ ?_ ?_); rfl; rfl; rfl; rfl)
              | (go_at_call 5; (with_reducible refine (missed_is fr al cr fi ai fo co true true T bn ms 0 s true true (mb_hu _ _ _ _) _).mono ?_); rintro e wy ⟨rfl, hby⟩; replace hst := hst.call hby; clear hby))
            go_wp2_with (first
              | ((with_reducible refine law_ldx (.tmp 3) ?_ ?_ hst 1 gX T bn ms r s u ?_ ?_ ?_); rfl; rfl; rfl; rfl)
              | ((with_reducible refine law_alx ?_ 13 ?_ ?_ hst ?_); rfl; rfl; rfl; clear hst; intro gHh wx hst; replace hst : St w wx [(gA, aC fr al cr fi ai fo co true hn), (gX, xC T bn ms r s u), (gL, xC T bn ms r s false), (gH, xC T bn ms r s true), (gAl, aC fr al cr fi ai fo co true false), (gAh, aC fr al cr fi ai fo co true true), (gHs, xC T bn ms 0 true u), (gHu, xC T bn ms 0 s true), (gHn, aC fr al cr fi ai fo co true true), (gHh, xC (fun _ => 0) 0 0 0 false false)] := hst)
              | ((with_reducible refine law_stx (.tmp 13) (.tmp 69) ?_ ?_ ?_ hst 9 gHh T bn ms r s u (fun _ => 0) 0 0 0 false false ?_ ?_ ?_ ?_); rfl; rfl; rfl; rfl; rfl; rfl; clear hst; intro wx hst; replace hst : St w wx [(gA, aC fr al cr fi ai fo co true hn), (gX, xC T bn ms r s u), (gL, xC T bn ms r s false), (gH, xC T bn ms r s true), (gAl, aC fr al cr fi ai fo co true false), (gAh, aC fr al cr fi ai fo co true true), (gHs, xC T bn ms 0 true u), (gHu, xC T bn ms 0 s true), (gHn, aC fr al cr fi ai fo co true true), (gHh, xC T bn ms r s u)] := hst)
              | ((with_reducible refine law_x18 (.tmp 70) (.const (.int .i64 0)) ?_ ?_ ?_ hst 9 gHh T bn ms r s u ?_ ?_ 0 ?_ ?_); rfl; rfl; rfl; rfl; rfl; rfl; clear hst; intro wx hst; replace hst : St w wx [(gA, aC fr al cr fi ai fo co true hn), (gX, xC T bn ms r s u), (gL, xC T bn ms r s false), (gH, xC T bn ms r s true), (gAl, aC fr al cr fi ai fo co true false), (gAh, aC fr al cr fi ai fo co true true), (gHs, xC T bn ms 0 true u), (gHu, xC T bn ms 0 s true), (gHn, aC fr al cr fi ai fo co true true), (gHh, xC T bn ms 0 s u)] := hst)
              | ((with_reducible refine law_l7 (.tmp 71) ?_ ?_ hst 0 gA fr al cr fi ai fo co true hn ?_ ?_ ?_); rfl; rfl; rfl; rfl)
              | ((with_reducible refine law_l2 (.tmp 75) ?_ ?_ hst 0 gA fr al cr fi ai fo co true hn ?_ ?_ ?_); rfl; rfl; rfl; rfl)
              | ((with_reducible refine law_lda (.tmp 2) ?_ ?_ hst 0 gA fr al cr fi ai fo co true hn ?_ ?_ ?_); rfl; rfl; rfl; rfl)
              | ((with_reducible refine law_x19 (.tmp 83) (.const (.bool false)) ?_ ?_ ?_ hst 9 gHh T bn ms 0 s u ?_ ?_ false ?_ ?_); rfl; rfl; rfl; rfl; rfl; rfl; clear hst; intro wx hst; replace hst : St w wx [(gA, aC fr al cr fi ai fo co true hn), (gX, xC T bn ms r s u), (gL, xC T bn ms r s false), (gH, xC T bn ms r s true), (gAl, aC fr al cr fi ai fo co true false), (gAh, aC fr al cr fi ai fo co true true), (gHs, xC T bn ms 0 true u), (gHu, xC T bn ms 0 s true), (gHn, aC fr al cr fi ai fo co true true), (gHh, xC T bn ms 0 false u)] := hst)
              | ((with_reducible refine law_x20 (.tmp 84) (.const (.bool false)) ?_ ?_ ?_ hst 9 gHh T bn ms 0 false u ?_ ?_ false ?_ ?_); rfl; rfl; rfl; rfl; rfl; rfl; clear hst; intro wx hst; replace hst : St w wx [(gA, aC fr al cr fi ai fo co true hn), (gX, xC T bn ms r s u), (gL, xC T bn ms r s false), (gH, xC T bn ms r s true), (gAl, aC fr al cr fi ai fo co true false), (gAh, aC fr al cr fi ai fo co true true), (gHs, xC T bn ms 0 true u), (gHu, xC T bn ms 0 s true), (gHn, aC fr al cr fi ai fo co true true), (gHh, xC T bn ms 0 false false)] := hst)
              | ((with_reducible refine law_ldx (.tmp 13) ?_ ?_ hst 9 gHh T bn ms 0 false false ?_ ?_ ?_); rfl; rfl; rfl; rfl)
              | (go_at_call 5; (with_reducible refine (missed_is fr al cr fi ai fo co true hn T bn ms 0 false false false (mb_one2 _ _ _) _).mono ?_); rintro e wy ⟨rfl, hby⟩; replace hst := hst.call hby; clear hby)
              | ((with_reducible refine law_l7 (.tmp 88) ?_ ?_ hst 0 gA fr al cr fi ai fo co true hn ?_ ?_ ?_); rfl; rfl; rfl; rfl)
              | ((with_reducible refine law_l2 (.tmp 91) ?_ ?_ hst 0 gA fr al cr fi ai fo co true hn ?_ ?_ ?_); rfl; rfl; rfl; rfl)
              | ((with_reducible refine law_l18 (.tmp 96) ?_ ?_ hst 1 gX T bn ms r s u ?_ ?_ ?_); rfl; rfl; rfl; rfl))
            go_ret
            exact ⟨rfl, hst.below⟩

end Go.Proofs.Qxb6617607a
