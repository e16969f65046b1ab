import Derived.Test.Qxb6617607aLaws
namespace Go.Proofs.Qxb6617607a
open Go.RowKit
set_option linter.unusedVariables false

theorem St.pre {w0 w : World} {L M : List (Nat × Array Value)} (h : St w0 w (L ++ M)) : St w0 w L := by
  have key : ∀ (i g : Nat) (cs : Array Value), L[i]? = some (g, cs) → (L ++ M)[i]? = some (g, cs) := fun i g cs hi => by
    rw [List.getElem?_append_left (List.getElem?_eq_some_iff.1 hi).1]; exact hi
  exact ⟨h.below, fun i g cs hi => h.know i g cs (key i g cs hi), fun i j g cs cs' hi hj => h.apart i j g cs cs' (key i g cs hi) (key j g cs' hj)⟩

theorem mb_grow (fr cr : Int) (ow hn : Bool) (r r2 : Int) (s u : Bool) (h1 : 1 ≤ r) (h2 : r ≤ r2) (h : mb fr cr ow hn r s u = true) : mb fr cr ow hn r2 s u = true := by
  unfold mb at *
  by_cases h3 : ow = false ∧ cr = 0
  · rw [if_pos h3] at *; simp at h ⊢; omega
  · rw [if_neg h3, if_neg (by omega)] at *; simp at h ⊢; exact ⟨h.1, h.2.1, by omega⟩
theorem mb_at (fr cr : Int) (hn s u : Bool) (k : cr = 0) (h : 2 ≤ fr) : mb fr cr false hn fr s u = true := by simp [mb, k]
theorem mb_bef (fr cr : Int) (hn s u : Bool) (k : cr = 0) (h : 2 ≤ fr) : mb fr cr false hn (fr - 1) s u = false := by simp [mb, k]; omega
theorem mb_at1 (fr cr : Int) (hn s u : Bool) (k : cr = 0) (h : fr < 2) : mb fr cr false hn 1 s u = true := by simp [mb, k]; omega
theorem mb_cat (fr cr : Int) (ow hn u : Bool) (h : 2 ≤ cr) : mb fr cr ow hn cr true u = true := by
  unfold mb; rw [if_neg (by omega), if_neg (by omega)]; simp; omega
theorem mb_cbef (fr cr : Int) (ow hn u : Bool) (h : 2 ≤ cr) : mb fr cr ow hn (cr - 1) true u = false := by
  unfold mb; rw [if_neg (by omega), if_neg (by omega)]; simp; omega
theorem mb_cat1 (fr cr : Int) (ow hn u : Bool) (h0 : 0 < cr) (h : cr < 2) : mb fr cr ow hn 1 true u = true := by
  unfold mb; rw [if_neg (by omega), if_neg (by omega)]; simp; omega
theorem mb_never (fr cr : Int) (ow hn : Bool) (r : Int) (s u : Bool) (h : ¬ (ow = false ∧ cr = 0)) (hs : s = false ∨ ¬ 0 < cr) (hr : 1 ≤ r) : mb fr cr ow hn r s u = false := by
  unfold mb; rw [if_neg h, if_neg (by omega)]
  rcases hs with rfl | hs
  · simp
  · simp; intro _ h2; omega

set_option maxRecDepth 1000000 in
set_option maxHeartbeats 4000000 in
theorem thresh_any (fr al cr fi ai fo co : Int) (ow hn : Bool) (T : Nat → Int) (bn ms r : Int) (s u : Bool) (r2 : Int) (bf1 : -9223372036854775808 ≤ fr) (bf2 : fr ≤ 9223372036854775807) (bc1 : -9223372036854775808 ≤ cr) (bc2 : cr ≤ 9223372036854775807) (w : World) :
    Calls Try.prog 4 #[.agg (aC fr al cr fi ai fo co ow hn), .agg (xC T bn ms r s u), .int .i64 r2] w fun e w' => e = .returned (.bool true) ∧ Below w.heap.size w w' := by
  have hst := St.nil w
  go_enter Try.func4, Try.ntmps4
  go_upto_region 2 with (first
    | ((with_reducible refine law_bx 23 (.tmp 0) ?_ ?_ hst (aC fr al cr fi ai fo co ow hn) ?_ ?_); rfl; rfl; rfl; clear hst; intro gA wx hst; replace hst : St w wx [(gA, aC fr al cr fi ai fo co ow hn)] := hst)
    | ((with_reducible refine law_bx 27 (.tmp 1) ?_ ?_ hst (xC T bn ms r s u) ?_ ?_); rfl; rfl; rfl; clear hst; intro gX wx hst; replace hst : St w wx [(gA, aC fr al cr fi ai fo co ow hn), (gX, xC T bn ms r s u)] := hst))
  go_cut [20] (fun v wc => ∃ b : Bool, v = .bool b ∧ (b = true → 1 ≤ r ∧ r ≤ r2) ∧ St w wc [(gA, aC fr al cr fi ai fo co ow hn), (gX, xC T bn ms r s u)])
  case first =>
    by_cases h1 : 1 ≤ r
    · go_wp2_with (first
      | ((with_reducible refine law_l18 (.tmp 12) ?_ ?_ hst 1 gX T bn ms r s u ?_ ?_ ?_); rfl; rfl; rfl; rfl)
      | ((with_reducible refine law_l18 (.tmp 17) ?_ ?_ hst 1 gX T bn ms r s u ?_ ?_ ?_); rfl; rfl; rfl; rfl))
      go_meet
      case rel => exact ⟨_, rfl, fun h => ⟨h1, of_decide_eq_true h⟩, hst⟩
    · have h1d : decide (1 ≤ r) = false := decide_eq_false h1
      go_wp2_with (first
      | ((with_reducible refine law_l18 (.tmp 12) ?_ ?_ hst 1 gX T bn ms r s u ?_ ?_ ?_); rfl; rfl; rfl; rfl)
      | ((with_reducible refine law_l18 (.tmp 17) ?_ ?_ hst 1 gX T bn ms r s u ?_ ?_ ?_); rfl; rfl; rfl; rfl))
      go_meet
      case rel => exact ⟨false, rfl, fun h => (by cases h), hst⟩
  case rest =>
    clear hst
    obtain ⟨b, rfl, hbb, hst⟩ := hcut
    go_upto_if 20 with fail
    go_cut [7] (fun v wc => v = .bool true ∧ St w wc [(gA, aC fr al cr fi ai fo co ow hn), (gX, xC T bn ms r s u)])
    case first =>
      cases b
      · clear hbb
        go_wp2_with fail
        go_meet
        case rel => exact ⟨rfl, hst⟩
      · obtain ⟨hc1, hc2⟩ := hbb rfl
        clear hbb
        by_cases h1 : mb fr cr ow hn r s u = true
        · have h2 := mb_grow _ _ _ _ _ _ _ _ hc1 hc2 h1
          go_wp2_with (first
            | ((with_reducible refine law_ldx (.tmp 4) ?_ ?_ hst 1 gX T bn ms r s u ?_ ?_ ?_); rfl; rfl; rfl; rfl)
            | ((with_reducible refine law_alx ?_ 8 ?_ ?_ hst ?_); rfl; rfl; rfl; clear hst; intro gY wx hst; replace hst : St w wx [(gA, aC fr al cr fi ai fo co ow hn), (gX, xC T bn ms r s u), (gY, xC (fun _ => 0) 0 0 0 false false)] := hst)
            | ((with_reducible refine law_stx (.tmp 8) (.tmp 21) ?_ ?_ ?_ hst 2 gY T bn ms r s u (fun _ => 0) 0 0 0 false false ?_ ?_ ?_ ?_); rfl; rfl; rfl; rfl; rfl; rfl; clear hst; intro wx hst; replace hst : St w wx [(gA, aC fr al cr fi ai fo co ow hn), (gX, xC T bn ms r s u), (gY, xC T bn ms r s u)] := hst)
            | ((with_reducible refine law_x18 (.tmp 23) (.tmp 22) ?_ ?_ ?_ hst 2 gY T bn ms r s u ?_ ?_ r2 ?_ ?_); rfl; rfl; rfl; rfl; rfl; rfl; clear hst; intro wx hst; replace hst : St w wx [(gA, aC fr al cr fi ai fo co ow hn), (gX, xC T bn ms r s u), (gY, xC T bn ms r2 s u)] := hst)
            | ((with_reducible refine law_lda (.tmp 3) ?_ ?_ hst 0 gA fr al cr fi ai fo co ow hn ?_ ?_ ?_); rfl; rfl; rfl; rfl)
            | (go_at_call 5; (with_reducible refine (missed_is fr al cr fi ai fo co ow hn T bn ms r s u true h1 _).mono ?_); rintro e wy ⟨rfl, hby⟩; replace hst := hst.call hby; clear hby)
            | ((with_reducible refine law_ldx (.tmp 8) ?_ ?_ hst 2 gY T bn ms r2 s u ?_ ?_ ?_); rfl; rfl; rfl; rfl)
            | (go_at_call 5; (with_reducible refine (missed_is fr al cr fi ai fo co ow hn T bn ms r2 s u true h2 _).mono ?_); rintro e wy ⟨rfl, hby⟩; replace hst := hst.call hby; clear hby))
          go_meet
          case rel => exact ⟨rfl, St.pre (L := [(gA, aC fr al cr fi ai fo co ow hn), (gX, xC T bn ms r s u)]) hst⟩
        · have h1 : mb fr cr ow hn r s u = false := by simpa using h1
          go_wp2_with (first
            | ((with_reducible refine law_ldx (.tmp 4) ?_ ?_ hst 1 gX T bn ms r s u ?_ ?_ ?_); rfl; rfl; rfl; rfl)
            | ((with_reducible refine law_alx ?_ 8 ?_ ?_ hst ?_); rfl; rfl; rfl; clear hst; intro gY wx hst; replace hst : St w wx [(gA, aC fr al cr fi ai fo co ow hn), (gX, xC T bn ms r s u), (gY, xC (fun _ => 0) 0 0 0 false false)] := hst)
            | ((with_reducible refine law_stx (.tmp 8) (.tmp 21) ?_ ?_ ?_ hst 2 gY T bn ms r s u (fun _ => 0) 0 0 0 false false ?_ ?_ ?_ ?_); rfl; rfl; rfl; rfl; rfl; rfl; clear hst; intro wx hst; replace hst : St w wx [(gA, aC fr al cr fi ai fo co ow hn), (gX, xC T bn ms r s u), (gY, xC T bn ms r s u)] := hst)
            | ((with_reducible refine law_x18 (.tmp 23) (.tmp 22) ?_ ?_ ?_ hst 2 gY T bn ms r s u ?_ ?_ r2 ?_ ?_); rfl; rfl; rfl; rfl; rfl; rfl; clear hst; intro wx hst; replace hst : St w wx [(gA, aC fr al cr fi ai fo co ow hn), (gX, xC T bn ms r s u), (gY, xC T bn ms r2 s u)] := hst)
            | ((with_reducible refine law_lda (.tmp 3) ?_ ?_ hst 0 gA fr al cr fi ai fo co ow hn ?_ ?_ ?_); rfl; rfl; rfl; rfl)
            | (go_at_call 5; (with_reducible refine (missed_is fr al cr fi ai fo co ow hn T bn ms r s u false h1 _).mono ?_); rintro e wy ⟨rfl, hby⟩; replace hst := hst.call hby; clear hby))
          go_meet
          case rel => exact ⟨rfl, St.pre (L := [(gA, aC fr al cr fi ai fo co ow hn), (gX, xC T bn ms r s u)]) hst⟩
    case rest =>
      clear hst
      obtain ⟨rfl, hst⟩ := hcut
      cases ow
      · by_cases k : cr = 0
        · have k1 : (cr == 0) = true := by simpa using k
          have kH : Hid (cr = 0) := k
          clear k
          by_cases kt : 2 ≤ fr
          · skip
            go_upto_region 16 with (first
              | ((with_reducible refine law_l7 (.tmp 33) ?_ ?_ hst 0 gA fr al cr fi ai fo co false hn ?_ ?_ ?_); rfl; rfl; rfl; rfl)
              | ((with_reducible refine law_l2 (.tmp 37) ?_ ?_ hst 0 gA fr al cr fi ai fo co false hn ?_ ?_ ?_); rfl; rfl; rfl; rfl)
              | ((with_reducible refine law_l0 (.tmp 41) ?_ ?_ hst 0 gA fr al cr fi ai fo co false hn ?_ ?_ ?_); rfl; rfl; rfl; rfl)
              | ((with_reducible refine law_l2 (.tmp 43) ?_ ?_ hst 0 gA fr al cr fi ai fo co false hn ?_ ?_ ?_); rfl; rfl; rfl; rfl)
              | ((with_reducible refine law_l19 (.tmp 47) ?_ ?_ hst 1 gX T bn ms r s u ?_ ?_ ?_); rfl; rfl; rfl; rfl)
              | ((with_reducible refine law_l2 (.tmp 50) ?_ ?_ hst 0 gA fr al cr fi ai fo co false hn ?_ ?_ ?_); rfl; rfl; rfl; rfl)
              | ((with_reducible refine law_ldx (.tmp 4) ?_ ?_ hst 1 gX T bn ms r s u ?_ ?_ ?_); rfl; rfl; rfl; rfl)
              | ((with_reducible refine law_alx ?_ 11 ?_ ?_ hst ?_); rfl; rfl; rfl; clear hst; intro gT wx hst; replace hst : St w wx [(gA, aC fr al cr fi ai fo co false hn), (gX, xC T bn ms r s u), (gT, xC (fun _ => 0) 0 0 0 false false)] := hst)
              | ((with_reducible refine law_stx (.tmp 11) (.tmp 52) ?_ ?_ ?_ hst 2 gT T bn ms r s u (fun _ => 0) 0 0 0 false false ?_ ?_ ?_ ?_); rfl; rfl; rfl; rfl; rfl; rfl; clear hst; intro wx hst; replace hst : St w wx [(gA, aC fr al cr fi ai fo co false hn), (gX, xC T bn ms r s u), (gT, xC T bn ms r s u)] := hst))
            go_wp2_with (first
              | ((with_reducible refine law_lda (.tmp 3) ?_ ?_ hst 0 gA fr al cr fi ai fo co false hn ?_ ?_ ?_); rfl; rfl; rfl; rfl)
              | ((with_reducible refine law_x18 (.tmp 57) (.tmp 56) ?_ ?_ ?_ hst 2 gT T bn ms r s u ?_ ?_ fr ?_ ?_); rfl; rfl; rfl; rfl; rfl; rfl; clear hst; intro wx hst; replace hst : St w wx [(gA, aC fr al cr fi ai fo co false hn), (gX, xC T bn ms r s u), (gT, xC T bn ms fr s u)] := hst)
              | ((with_reducible refine law_ldx (.tmp 11) ?_ ?_ hst 2 gT T bn ms fr s u ?_ ?_ ?_); rfl; rfl; rfl; rfl)
              | (go_at_call 5; (with_reducible refine (missed_is fr al cr fi ai fo co false hn T bn ms fr s u true (mb_at _ _ _ _ _ kH.out kt) _).mono ?_); rintro e wy ⟨rfl, hby⟩; replace hst := hst.call hby; clear hby)
              | ((with_reducible refine law_x18 (.tmp 64) (.tmp 63) ?_ ?_ ?_ hst 2 gT T bn ms fr s u ?_ ?_ (fr - 1) ?_ ?_); rfl; rfl; rfl; rfl; rfl; rfl; clear hst; intro wx hst; replace hst : St w wx [(gA, aC fr al cr fi ai fo co false hn), (gX, xC T bn ms r s u), (gT, xC T bn ms (fr - 1) s u)] := hst)
              | ((with_reducible refine law_ldx (.tmp 11) ?_ ?_ hst 2 gT T bn ms (fr - 1) s u ?_ ?_ ?_); rfl; rfl; rfl; rfl)
              | (go_at_call 5; (with_reducible refine (missed_is fr al cr fi ai fo co false hn T bn ms (fr - 1) s u false (mb_bef _ _ _ _ _ kH.out kt) _).mono ?_); rintro e wy ⟨rfl, hby⟩; replace hst := hst.call hby; clear hby))
            go_ret
            exact ⟨rfl, hst.below⟩
          · have kt : fr < 2 := by omega
            go_upto_region 16 with (first
              | ((with_reducible refine law_l7 (.tmp 33) ?_ ?_ hst 0 gA fr al cr fi ai fo co false hn ?_ ?_ ?_); rfl; rfl; rfl; rfl)
              | ((with_reducible refine law_l2 (.tmp 37) ?_ ?_ hst 0 gA fr al cr fi ai fo co false hn ?_ ?_ ?_); rfl; rfl; rfl; rfl)
              | ((with_reducible refine law_l0 (.tmp 41) ?_ ?_ hst 0 gA fr al cr fi ai fo co false hn ?_ ?_ ?_); rfl; rfl; rfl; rfl)
              | ((with_reducible refine law_l2 (.tmp 43) ?_ ?_ hst 0 gA fr al cr fi ai fo co false hn ?_ ?_ ?_); rfl; rfl; rfl; rfl)
              | ((with_reducible refine law_l19 (.tmp 47) ?_ ?_ hst 1 gX T bn ms r s u ?_ ?_ ?_); rfl; rfl; rfl; rfl)
              | ((with_reducible refine law_l2 (.tmp 50) ?_ ?_ hst 0 gA fr al cr fi ai fo co false hn ?_ ?_ ?_); rfl; rfl; rfl; rfl)
              | ((with_reducible refine law_ldx (.tmp 4) ?_ ?_ hst 1 gX T bn ms r s u ?_ ?_ ?_); rfl; rfl; rfl; rfl)
              | ((with_reducible refine law_alx ?_ 11 ?_ ?_ hst ?_); rfl; rfl; rfl; clear hst; intro gT wx hst; replace hst : St w wx [(gA, aC fr al cr fi ai fo co false hn), (gX, xC T bn ms r s u), (gT, xC (fun _ => 0) 0 0 0 false false)] := hst)
              | ((with_reducible refine law_stx (.tmp 11) (.tmp 52) ?_ ?_ ?_ hst 2 gT T bn ms r s u (fun _ => 0) 0 0 0 false false ?_ ?_ ?_ ?_); rfl; rfl; rfl; rfl; rfl; rfl; clear hst; intro wx hst; replace hst : St w wx [(gA, aC fr al cr fi ai fo co false hn), (gX, xC T bn ms r s u), (gT, xC T bn ms r s u)] := hst))
            go_wp2_with (first
              | ((with_reducible refine law_lda (.tmp 3) ?_ ?_ hst 0 gA fr al cr fi ai fo co false hn ?_ ?_ ?_); rfl; rfl; rfl; rfl)
              | ((with_reducible refine law_x18 (.tmp 68) (.const (.int .i64 1)) ?_ ?_ ?_ hst 2 gT T bn ms r s u ?_ ?_ 1 ?_ ?_); rfl; rfl; rfl; rfl; rfl; rfl; clear hst; intro wx hst; replace hst : St w wx [(gA, aC fr al cr fi ai fo co false hn), (gX, xC T bn ms r s u), (gT, xC T bn ms 1 s u)] := hst)
              | ((with_reducible refine law_ldx (.tmp 11) ?_ ?_ hst 2 gT T bn ms 1 s u ?_ ?_ ?_); rfl; rfl; rfl; rfl)
              | (go_at_call 5; (with_reducible refine (missed_is fr al cr fi ai fo co false hn T bn ms 1 s u true (mb_at1 _ _ _ _ _ kH.out kt) _).mono ?_); rintro e wy ⟨rfl, hby⟩; replace hst := hst.call hby; clear hby))
            go_ret
            exact ⟨rfl, hst.below⟩
        · have k1 : (cr == 0) = false := by simpa using k
          have kH : Hid (¬ cr = 0) := k
          clear k
          by_cases kp : 0 < cr
          · cases s
            · skip
              have kn : Hid (¬ (false = false ∧ cr = 0)) := fun h => kH.out h.2
              have ks : Hid (false = false ∨ ¬ 0 < cr) := Or.inl rfl
              by_cases kt : 1 ≤ r2
              · skip
                go_upto_region 16 with (first
                  | ((with_reducible refine law_l7 (.tmp 33) ?_ ?_ hst 0 gA fr al cr fi ai fo co false hn ?_ ?_ ?_); rfl; rfl; rfl; rfl)
                  | ((with_reducible refine law_l2 (.tmp 37) ?_ ?_ hst 0 gA fr al cr fi ai fo co false hn ?_ ?_ ?_); rfl; rfl; rfl; rfl)
                  | ((with_reducible refine law_l0 (.tmp 41) ?_ ?_ hst 0 gA fr al cr fi ai fo co false hn ?_ ?_ ?_); rfl; rfl; rfl; rfl)
                  | ((with_reducible refine law_l2 (.tmp 43) ?_ ?_ hst 0 gA fr al cr fi ai fo co false hn ?_ ?_ ?_); rfl; rfl; rfl; rfl)
                  | ((with_reducible refine law_l19 (.tmp 47) ?_ ?_ hst 1 gX T bn ms r false u ?_ ?_ ?_); rfl; rfl; rfl; rfl)
                  | ((with_reducible refine law_l2 (.tmp 50) ?_ ?_ hst 0 gA fr al cr fi ai fo co false hn ?_ ?_ ?_); rfl; rfl; rfl; rfl)
                  | ((with_reducible refine law_ldx (.tmp 4) ?_ ?_ hst 1 gX T bn ms r false u ?_ ?_ ?_); rfl; rfl; rfl; rfl)
                  | ((with_reducible refine law_alx ?_ 11 ?_ ?_ hst ?_); rfl; rfl; rfl; clear hst; intro gT wx hst; replace hst : St w wx [(gA, aC fr al cr fi ai fo co false hn), (gX, xC T bn ms r false u), (gT, xC (fun _ => 0) 0 0 0 false false)] := hst)
                  | ((with_reducible refine law_stx (.tmp 11) (.tmp 52) ?_ ?_ ?_ hst 2 gT T bn ms r false u (fun _ => 0) 0 0 0 false false ?_ ?_ ?_ ?_); rfl; rfl; rfl; rfl; rfl; rfl; clear hst; intro wx hst; replace hst : St w wx [(gA, aC fr al cr fi ai fo co false hn), (gX, xC T bn ms r false u), (gT, xC T bn ms r false u)] := hst))
                go_wp2_with (first
                  | ((with_reducible refine law_lda (.tmp 3) ?_ ?_ hst 0 gA fr al cr fi ai fo co false hn ?_ ?_ ?_); rfl; rfl; rfl; rfl)
                  | ((with_reducible refine law_x18 (.tmp 73) (.const (.int .i64 1)) ?_ ?_ ?_ hst 2 gT T bn ms r false u ?_ ?_ 1 ?_ ?_); rfl; rfl; rfl; rfl; rfl; rfl; clear hst; intro wx hst; replace hst : St w wx [(gA, aC fr al cr fi ai fo co false hn), (gX, xC T bn ms r false u), (gT, xC T bn ms 1 false u)] := hst)
                  | ((with_reducible refine law_x18 (.tmp 77) (.tmp 76) ?_ ?_ ?_ hst 2 gT T bn ms 1 false u ?_ ?_ r2 ?_ ?_); rfl; rfl; rfl; rfl; rfl; rfl; clear hst; intro wx hst; replace hst : St w wx [(gA, aC fr al cr fi ai fo co false hn), (gX, xC T bn ms r false u), (gT, xC T bn ms r2 false u)] := hst)
                  | ((with_reducible refine law_ldx (.tmp 11) ?_ ?_ hst 2 gT T bn ms r2 false u ?_ ?_ ?_); rfl; rfl; rfl; rfl)
                  | (go_at_call 5; (with_reducible refine (missed_is fr al cr fi ai fo co false hn T bn ms r2 false u false (mb_never _ _ _ _ _ _ _ kn.out ks.out kt) _).mono ?_); rintro e wy ⟨rfl, hby⟩; replace hst := hst.call hby; clear hby))
                go_ret
                exact ⟨rfl, hst.below⟩
              · skip
                go_upto_region 16 with (first
                  | ((with_reducible refine law_l7 (.tmp 33) ?_ ?_ hst 0 gA fr al cr fi ai fo co false hn ?_ ?_ ?_); rfl; rfl; rfl; rfl)
                  | ((with_reducible refine law_l2 (.tmp 37) ?_ ?_ hst 0 gA fr al cr fi ai fo co false hn ?_ ?_ ?_); rfl; rfl; rfl; rfl)
                  | ((with_reducible refine law_l0 (.tmp 41) ?_ ?_ hst 0 gA fr al cr fi ai fo co false hn ?_ ?_ ?_); rfl; rfl; rfl; rfl)
                  | ((with_reducible refine law_l2 (.tmp 43) ?_ ?_ hst 0 gA fr al cr fi ai fo co false hn ?_ ?_ ?_); rfl; rfl; rfl; rfl)
                  | ((with_reducible refine law_l19 (.tmp 47) ?_ ?_ hst 1 gX T bn ms r false u ?_ ?_ ?_); rfl; rfl; rfl; rfl)
                  | ((with_reducible refine law_l2 (.tmp 50) ?_ ?_ hst 0 gA fr al cr fi ai fo co false hn ?_ ?_ ?_); rfl; rfl; rfl; rfl)
                  | ((with_reducible refine law_ldx (.tmp 4) ?_ ?_ hst 1 gX T bn ms r false u ?_ ?_ ?_); rfl; rfl; rfl; rfl)
                  | ((with_reducible refine law_alx ?_ 11 ?_ ?_ hst ?_); rfl; rfl; rfl; clear hst; intro gT wx hst; replace hst : St w wx [(gA, aC fr al cr fi ai fo co false hn), (gX, xC T bn ms r false u), (gT, xC (fun _ => 0) 0 0 0 false false)] := hst)
                  | ((with_reducible refine law_stx (.tmp 11) (.tmp 52) ?_ ?_ ?_ hst 2 gT T bn ms r false u (fun _ => 0) 0 0 0 false false ?_ ?_ ?_ ?_); rfl; rfl; rfl; rfl; rfl; rfl; clear hst; intro wx hst; replace hst : St w wx [(gA, aC fr al cr fi ai fo co false hn), (gX, xC T bn ms r false u), (gT, xC T bn ms r false u)] := hst))
                go_wp2_with (first
                  | ((with_reducible refine law_lda (.tmp 3) ?_ ?_ hst 0 gA fr al cr fi ai fo co false hn ?_ ?_ ?_); rfl; rfl; rfl; rfl)
                  | ((with_reducible refine law_x18 (.tmp 73) (.const (.int .i64 1)) ?_ ?_ ?_ hst 2 gT T bn ms r false u ?_ ?_ 1 ?_ ?_); rfl; rfl; rfl; rfl; rfl; rfl; clear hst; intro wx hst; replace hst : St w wx [(gA, aC fr al cr fi ai fo co false hn), (gX, xC T bn ms r false u), (gT, xC T bn ms 1 false u)] := hst)
                  | ((with_reducible refine law_ldx (.tmp 11) ?_ ?_ hst 2 gT T bn ms 1 false u ?_ ?_ ?_); rfl; rfl; rfl; rfl)
                  | (go_at_call 5; (with_reducible refine (missed_is fr al cr fi ai fo co false hn T bn ms 1 false u false (mb_never _ _ _ _ _ _ _ kn.out ks.out (by decide)) _).mono ?_); rintro e wy ⟨rfl, hby⟩; replace hst := hst.call hby; clear hby))
                go_ret
                exact ⟨rfl, hst.below⟩
            · by_cases kt : 2 ≤ cr
              · skip
                go_upto_region 16 with (first
                  | ((with_reducible refine law_l7 (.tmp 33) ?_ ?_ hst 0 gA fr al cr fi ai fo co false hn ?_ ?_ ?_); rfl; rfl; rfl; rfl)
                  | ((with_reducible refine law_l2 (.tmp 37) ?_ ?_ hst 0 gA fr al cr fi ai fo co false hn ?_ ?_ ?_); rfl; rfl; rfl; rfl)
                  | ((with_reducible refine law_l0 (.tmp 41) ?_ ?_ hst 0 gA fr al cr fi ai fo co false hn ?_ ?_ ?_); rfl; rfl; rfl; rfl)
                  | ((with_reducible refine law_l2 (.tmp 43) ?_ ?_ hst 0 gA fr al cr fi ai fo co false hn ?_ ?_ ?_); rfl; rfl; rfl; rfl)
                  | ((with_reducible refine law_l19 (.tmp 47) ?_ ?_ hst 1 gX T bn ms r true u ?_ ?_ ?_); rfl; rfl; rfl; rfl)
                  | ((with_reducible refine law_l2 (.tmp 50) ?_ ?_ hst 0 gA fr al cr fi ai fo co false hn ?_ ?_ ?_); rfl; rfl; rfl; rfl)
                  | ((with_reducible refine law_ldx (.tmp 4) ?_ ?_ hst 1 gX T bn ms r true u ?_ ?_ ?_); rfl; rfl; rfl; rfl)
                  | ((with_reducible refine law_alx ?_ 11 ?_ ?_ hst ?_); rfl; rfl; rfl; clear hst; intro gT wx hst; replace hst : St w wx [(gA, aC fr al cr fi ai fo co false hn), (gX, xC T bn ms r true u), (gT, xC (fun _ => 0) 0 0 0 false false)] := hst)
                  | ((with_reducible refine law_stx (.tmp 11) (.tmp 52) ?_ ?_ ?_ hst 2 gT T bn ms r true u (fun _ => 0) 0 0 0 false false ?_ ?_ ?_ ?_); rfl; rfl; rfl; rfl; rfl; rfl; clear hst; intro wx hst; replace hst : St w wx [(gA, aC fr al cr fi ai fo co false hn), (gX, xC T bn ms r true u), (gT, xC T bn ms r true u)] := hst))
                go_wp2_with (first
                  | ((with_reducible refine law_lda (.tmp 3) ?_ ?_ hst 0 gA fr al cr fi ai fo co false hn ?_ ?_ ?_); rfl; rfl; rfl; rfl)
                  | ((with_reducible refine law_x18 (.tmp 57) (.tmp 56) ?_ ?_ ?_ hst 2 gT T bn ms r true u ?_ ?_ cr ?_ ?_); rfl; rfl; rfl; rfl; rfl; rfl; clear hst; intro wx hst; replace hst : St w wx [(gA, aC fr al cr fi ai fo co false hn), (gX, xC T bn ms r true u), (gT, xC T bn ms cr true u)] := hst)
                  | ((with_reducible refine law_ldx (.tmp 11) ?_ ?_ hst 2 gT T bn ms cr true u ?_ ?_ ?_); rfl; rfl; rfl; rfl)
                  | (go_at_call 5; (with_reducible refine (missed_is fr al cr fi ai fo co false hn T bn ms cr true u true (mb_cat _ _ _ _ _ kt) _).mono ?_); rintro e wy ⟨rfl, hby⟩; replace hst := hst.call hby; clear hby)
                  | ((with_reducible refine law_x18 (.tmp 64) (.tmp 63) ?_ ?_ ?_ hst 2 gT T bn ms cr true u ?_ ?_ (cr - 1) ?_ ?_); rfl; rfl; rfl; rfl; rfl; rfl; clear hst; intro wx hst; replace hst : St w wx [(gA, aC fr al cr fi ai fo co false hn), (gX, xC T bn ms r true u), (gT, xC T bn ms (cr - 1) true u)] := hst)
                  | ((with_reducible refine law_ldx (.tmp 11) ?_ ?_ hst 2 gT T bn ms (cr - 1) true u ?_ ?_ ?_); rfl; rfl; rfl; rfl)
                  | (go_at_call 5; (with_reducible refine (missed_is fr al cr fi ai fo co false hn T bn ms (cr - 1) true u false (mb_cbef _ _ _ _ _ kt) _).mono ?_); rintro e wy ⟨rfl, hby⟩; replace hst := hst.call hby; clear hby))
                go_ret
                exact ⟨rfl, hst.below⟩
              · have kt : cr < 2 := by omega
                go_upto_region 16 with (first
                  | ((with_reducible refine law_l7 (.tmp 33) ?_ ?_ hst 0 gA fr al cr fi ai fo co false hn ?_ ?_ ?_); rfl; rfl; rfl; rfl)
                  | ((with_reducible refine law_l2 (.tmp 37) ?_ ?_ hst 0 gA fr al cr fi ai fo co false hn ?_ ?_ ?_); rfl; rfl; rfl; rfl)
                  | ((with_reducible refine law_l0 (.tmp 41) ?_ ?_ hst 0 gA fr al cr fi ai fo co false hn ?_ ?_ ?_); rfl; rfl; rfl; rfl)
                  | ((with_reducible refine law_l2 (.tmp 43) ?_ ?_ hst 0 gA fr al cr fi ai fo co false hn ?_ ?_ ?_); rfl; rfl; rfl; rfl)
                  | ((with_reducible refine law_l19 (.tmp 47) ?_ ?_ hst 1 gX T bn ms r true u ?_ ?_ ?_); rfl; rfl; rfl; rfl)
                  | ((with_reducible refine law_l2 (.tmp 50) ?_ ?_ hst 0 gA fr al cr fi ai fo co false hn ?_ ?_ ?_); rfl; rfl; rfl; rfl)
                  | ((with_reducible refine law_ldx (.tmp 4) ?_ ?_ hst 1 gX T bn ms r true u ?_ ?_ ?_); rfl; rfl; rfl; rfl)
                  | ((with_reducible refine law_alx ?_ 11 ?_ ?_ hst ?_); rfl; rfl; rfl; clear hst; intro gT wx hst; replace hst : St w wx [(gA, aC fr al cr fi ai fo co false hn), (gX, xC T bn ms r true u), (gT, xC (fun _ => 0) 0 0 0 false false)] := hst)
                  | ((with_reducible refine law_stx (.tmp 11) (.tmp 52) ?_ ?_ ?_ hst 2 gT T bn ms r true u (fun _ => 0) 0 0 0 false false ?_ ?_ ?_ ?_); rfl; rfl; rfl; rfl; rfl; rfl; clear hst; intro wx hst; replace hst : St w wx [(gA, aC fr al cr fi ai fo co false hn), (gX, xC T bn ms r true u), (gT, xC T bn ms r true u)] := hst))
                go_wp2_with (first
                  | ((with_reducible refine law_lda (.tmp 3) ?_ ?_ hst 0 gA fr al cr fi ai fo co false hn ?_ ?_ ?_); rfl; rfl; rfl; rfl)
                  | ((with_reducible refine law_x18 (.tmp 68) (.const (.int .i64 1)) ?_ ?_ ?_ hst 2 gT T bn ms r true u ?_ ?_ 1 ?_ ?_); rfl; rfl; rfl; rfl; rfl; rfl; clear hst; intro wx hst; replace hst : St w wx [(gA, aC fr al cr fi ai fo co false hn), (gX, xC T bn ms r true u), (gT, xC T bn ms 1 true u)] := hst)
                  | ((with_reducible refine law_ldx (.tmp 11) ?_ ?_ hst 2 gT T bn ms 1 true u ?_ ?_ ?_); rfl; rfl; rfl; rfl)
                  | (go_at_call 5; (with_reducible refine (missed_is fr al cr fi ai fo co false hn T bn ms 1 true u true (mb_cat1 _ _ _ _ _ kp kt) _).mono ?_); rintro e wy ⟨rfl, hby⟩; replace hst := hst.call hby; clear hby))
                go_ret
                exact ⟨rfl, hst.below⟩
          · have kpd : decide (0 < cr) = false := decide_eq_false kp
            have kn : Hid (¬ (false = false ∧ cr = 0)) := fun h => kH.out h.2
            have ks : Hid (s = false ∨ ¬ 0 < cr) := Or.inr kp
            by_cases kt : 1 ≤ r2
            · skip
              go_upto_region 16 with (first
                | ((with_reducible refine law_l7 (.tmp 33) ?_ ?_ hst 0 gA fr al cr fi ai fo co false hn ?_ ?_ ?_); rfl; rfl; rfl; rfl)
                | ((with_reducible refine law_l2 (.tmp 37) ?_ ?_ hst 0 gA fr al cr fi ai fo co false hn ?_ ?_ ?_); rfl; rfl; rfl; rfl)
                | ((with_reducible refine law_l0 (.tmp 41) ?_ ?_ hst 0 gA fr al cr fi ai fo co false hn ?_ ?_ ?_); rfl; rfl; rfl; rfl)
                | ((with_reducible refine law_l2 (.tmp 43) ?_ ?_ hst 0 gA fr al cr fi ai fo co false hn ?_ ?_ ?_); rfl; rfl; rfl; rfl)
                | ((with_reducible refine law_l19 (.tmp 47) ?_ ?_ hst 1 gX T bn ms r s u ?_ ?_ ?_); rfl; rfl; rfl; rfl)
                | ((with_reducible refine law_l2 (.tmp 50) ?_ ?_ hst 0 gA fr al cr fi ai fo co false hn ?_ ?_ ?_); rfl; rfl; rfl; rfl)
                | ((with_reducible refine law_ldx (.tmp 4) ?_ ?_ hst 1 gX T bn ms r s u ?_ ?_ ?_); rfl; rfl; rfl; rfl)
                | ((with_reducible refine law_alx ?_ 11 ?_ ?_ hst ?_); rfl; rfl; rfl; clear hst; intro gT wx hst; replace hst : St w wx [(gA, aC fr al cr fi ai fo co false hn), (gX, xC T bn ms r s u), (gT, xC (fun _ => 0) 0 0 0 false false)] := hst)
                | ((with_reducible refine law_stx (.tmp 11) (.tmp 52) ?_ ?_ ?_ hst 2 gT T bn ms r s u (fun _ => 0) 0 0 0 false false ?_ ?_ ?_ ?_); rfl; rfl; rfl; rfl; rfl; rfl; clear hst; intro wx hst; replace hst : St w wx [(gA, aC fr al cr fi ai fo co false hn), (gX, xC T bn ms r s u), (gT, xC T bn ms r s u)] := hst))
              go_wp2_with (first
                | ((with_reducible refine law_lda (.tmp 3) ?_ ?_ hst 0 gA fr al cr fi ai fo co false hn ?_ ?_ ?_); rfl; rfl; rfl; rfl)
                | ((with_reducible refine law_x18 (.tmp 73) (.const (.int .i64 1)) ?_ ?_ ?_ hst 2 gT T bn ms r s u ?_ ?_ 1 ?_ ?_); rfl; rfl; rfl; rfl; rfl; rfl; clear hst; intro wx hst; replace hst : St w wx [(gA, aC fr al cr fi ai fo co false hn), (gX, xC T bn ms r s u), (gT, xC T bn ms 1 s u)] := hst)
                | ((with_reducible refine law_x18 (.tmp 77) (.tmp 76) ?_ ?_ ?_ hst 2 gT T bn ms 1 s u ?_ ?_ r2 ?_ ?_); rfl; rfl; rfl; rfl; rfl; rfl; clear hst; intro wx hst; replace hst : St w wx [(gA, aC fr al cr fi ai fo co false hn), (gX, xC T bn ms r s u), (gT, xC T bn ms r2 s u)] := hst)
                | ((with_reducible refine law_ldx (.tmp 11) ?_ ?_ hst 2 gT T bn ms r2 s u ?_ ?_ ?_); rfl; rfl; rfl; rfl)
                | (go_at_call 5; (with_reducible refine (missed_is fr al cr fi ai fo co false hn T bn ms r2 s u false (mb_never _ _ _ _ _ _ _ kn.out ks.out kt) _).mono ?_); rintro e wy ⟨rfl, hby⟩; replace hst := hst.call hby; clear hby))
              go_ret
              exact ⟨rfl, hst.below⟩
            · skip
              go_upto_region 16 with (first
                | ((with_reducible refine law_l7 (.tmp 33) ?_ ?_ hst 0 gA fr al cr fi ai fo co false hn ?_ ?_ ?_); rfl; rfl; rfl; rfl)
                | ((with_reducible refine law_l2 (.tmp 37) ?_ ?_ hst 0 gA fr al cr fi ai fo co false hn ?_ ?_ ?_); rfl; rfl; rfl; rfl)
                | ((with_reducible refine law_l0 (.tmp 41) ?_ ?_ hst 0 gA fr al cr fi ai fo co false hn ?_ ?_ ?_); rfl; rfl; rfl; rfl)
                | ((with_reducible refine law_l2 (.tmp 43) ?_ ?_ hst 0 gA fr al cr fi ai fo co false hn ?_ ?_ ?_); rfl; rfl; rfl; rfl)
                | ((with_reducible refine law_l19 (.tmp 47) ?_ ?_ hst 1 gX T bn ms r s u ?_ ?_ ?_); rfl; rfl; rfl; rfl)
                | ((with_reducible refine law_l2 (.tmp 50) ?_ ?_ hst 0 gA fr al cr fi ai fo co false hn ?_ ?_ ?_); rfl; rfl; rfl; rfl)
                | ((with_reducible refine law_ldx (.tmp 4) ?_ ?_ hst 1 gX T bn ms r s u ?_ ?_ ?_); rfl; rfl; rfl; rfl)
                | ((with_reducible refine law_alx ?_ 11 ?_ ?_ hst ?_); rfl; rfl; rfl; clear hst; intro gT wx hst; replace hst : St w wx [(gA, aC fr al cr fi ai fo co false hn), (gX, xC T bn ms r s u), (gT, xC (fun _ => 0) 0 0 0 false false)] := hst)
                | ((with_reducible refine law_stx (.tmp 11) (.tmp 52) ?_ ?_ ?_ hst 2 gT T bn ms r s u (fun _ => 0) 0 0 0 false false ?_ ?_ ?_ ?_); rfl; rfl; rfl; rfl; rfl; rfl; clear hst; intro wx hst; replace hst : St w wx [(gA, aC fr al cr fi ai fo co false hn), (gX, xC T bn ms r s u), (gT, xC T bn ms r s u)] := hst))
              go_wp2_with (first
                | ((with_reducible refine law_lda (.tmp 3) ?_ ?_ hst 0 gA fr al cr fi ai fo co false hn ?_ ?_ ?_); rfl; rfl; rfl; rfl)
                | ((with_reducible refine law_x18 (.tmp 73) (.const (.int .i64 1)) ?_ ?_ ?_ hst 2 gT T bn ms r s u ?_ ?_ 1 ?_ ?_); rfl; rfl; rfl; rfl; rfl; rfl; clear hst; intro wx hst; replace hst : St w wx [(gA, aC fr al cr fi ai fo co false hn), (gX, xC T bn ms r s u), (gT, xC T bn ms 1 s u)] := hst)
                | ((with_reducible refine law_ldx (.tmp 11) ?_ ?_ hst 2 gT T bn ms 1 s u ?_ ?_ ?_); rfl; rfl; rfl; rfl)
                | (go_at_call 5; (with_reducible refine (missed_is fr al cr fi ai fo co false hn T bn ms 1 s u false (mb_never _ _ _ _ _ _ _ kn.out ks.out (by decide)) _).mono ?_); rintro e wy ⟨rfl, hby⟩; replace hst := hst.call hby; clear hby))
              go_ret
              exact ⟨rfl, hst.below⟩
      · skip
        by_cases kp : 0 < cr
        · cases s
          · skip
            have kn : Hid (¬ (true = false ∧ cr = 0)) := fun h => Bool.noConfusion h.1
            have ks : Hid (false = false ∨ ¬ 0 < cr) := Or.inl rfl
            by_cases kt : 1 ≤ r2
            · skip
              go_upto_region 16 with (first
                | ((with_reducible refine law_l7 (.tmp 33) ?_ ?_ hst 0 gA fr al cr fi ai fo co true hn ?_ ?_ ?_); rfl; rfl; rfl; rfl)
                | ((with_reducible refine law_l2 (.tmp 37) ?_ ?_ hst 0 gA fr al cr fi ai fo co true hn ?_ ?_ ?_); rfl; rfl; rfl; rfl)
                | ((with_reducible refine law_l0 (.tmp 41) ?_ ?_ hst 0 gA fr al cr fi ai fo co true hn ?_ ?_ ?_); rfl; rfl; rfl; rfl)
                | ((with_reducible refine law_l2 (.tmp 43) ?_ ?_ hst 0 gA fr al cr fi ai fo co true hn ?_ ?_ ?_); rfl; rfl; rfl; rfl)
                | ((with_reducible refine law_l19 (.tmp 47) ?_ ?_ hst 1 gX T bn ms r false u ?_ ?_ ?_); rfl; rfl; rfl; rfl)
                | ((with_reducible refine law_l2 (.tmp 50) ?_ ?_ hst 0 gA fr al cr fi ai fo co true hn ?_ ?_ ?_); rfl; rfl; rfl; rfl)
                | ((with_reducible refine law_ldx (.tmp 4) ?_ ?_ hst 1 gX T bn ms r false u ?_ ?_ ?_); rfl; rfl; rfl; rfl)
                | ((with_reducible refine law_alx ?_ 11 ?_ ?_ hst ?_); rfl; rfl; rfl; clear hst; intro gT wx hst; replace hst : St w wx [(gA, aC fr al cr fi ai fo co true hn), (gX, xC T bn ms r false u), (gT, xC (fun _ => 0) 0 0 0 false false)] := hst)
                | ((with_reducible refine law_stx (.tmp 11) (.tmp 52) ?_ ?_ ?_ hst 2 gT T bn ms r false u (fun _ => 0) 0 0 0 false false ?_ ?_ ?_ ?_); rfl; rfl; rfl; rfl; rfl; rfl; clear hst; intro wx hst; replace hst : St w wx [(gA, aC fr al cr fi ai fo co true hn), (gX, xC T bn ms r false u), (gT, xC T bn ms r false u)] := hst))
              go_wp2_with (first
                | ((with_reducible refine law_lda (.tmp 3) ?_ ?_ hst 0 gA fr al cr fi ai fo co true hn ?_ ?_ ?_); rfl; rfl; rfl; rfl)
                | ((with_reducible refine law_x18 (.tmp 73) (.const (.int .i64 1)) ?_ ?_ ?_ hst 2 gT T bn ms r false u ?_ ?_ 1 ?_ ?_); rfl; rfl; rfl; rfl; rfl; rfl; clear hst; intro wx hst; replace hst : St w wx [(gA, aC fr al cr fi ai fo co true hn), (gX, xC T bn ms r false u), (gT, xC T bn ms 1 false u)] := hst)
                | ((with_reducible refine law_x18 (.tmp 77) (.tmp 76) ?_ ?_ ?_ hst 2 gT T bn ms 1 false u ?_ ?_ r2 ?_ ?_); rfl; rfl; rfl; rfl; rfl; rfl; clear hst; intro wx hst; replace hst : St w wx [(gA, aC fr al cr fi ai fo co true hn), (gX, xC T bn ms r false u), (gT, xC T bn ms r2 false u)] := hst)
                | ((with_reducible refine law_ldx (.tmp 11) ?_ ?_ hst 2 gT T bn ms r2 false u ?_ ?_ ?_); rfl; rfl; rfl; rfl)
                | (go_at_call 5; (with_reducible refine (missed_is fr al cr fi ai fo co true hn T bn ms r2 false u false (mb_never _ _ _ _ _ _ _ kn.out ks.out kt) _).mono ?_); rintro e wy ⟨rfl, hby⟩; replace hst := hst.call hby; clear hby))
              go_ret
              exact ⟨rfl, hst.below⟩
            · skip
              go_upto_region 16 with (first
                | ((with_reducible refine law_l7 (.tmp 33) ?_ ?_ hst 0 gA fr al cr fi ai fo co true hn ?_ ?_ ?_); rfl; rfl; rfl; rfl)
                | ((with_reducible refine law_l2 (.tmp 37) ?_ ?_ hst 0 gA fr al cr fi ai fo co true hn ?_ ?_ ?_); rfl; rfl; rfl; rfl)
                | ((with_reducible refine law_l0 (.tmp 41) ?_ ?_ hst 0 gA fr al cr fi ai fo co true hn ?_ ?_ ?_); rfl; rfl; rfl; rfl)
                | ((with_reducible refine law_l2 (.tmp 43) ?_ ?_ hst 0 gA fr al cr fi ai fo co true hn ?_ ?_ ?_); rfl; rfl; rfl; rfl)
                | ((with_reducible refine law_l19 (.tmp 47) ?_ ?_ hst 1 gX T bn ms r false u ?_ ?_ ?_); rfl; rfl; rfl; rfl)
                | ((with_reducible refine law_l2 (.tmp 50) ?_ ?_ hst 0 gA fr al cr fi ai fo co true hn ?_ ?_ ?_); rfl; rfl; rfl; rfl)
                | ((with_reducible refine law_ldx (.tmp 4) ?_ ?_ hst 1 gX T bn ms r false u ?_ ?_ ?_); rfl; rfl; rfl; rfl)
                | ((with_reducible refine law_alx ?_ 11 ?_ ?_ hst ?_); rfl; rfl; rfl; clear hst; intro gT wx hst; replace hst : St w wx [(gA, aC fr al cr fi ai fo co true hn), (gX, xC T bn ms r false u), (gT, xC (fun _ => 0) 0 0 0 false false)] := hst)
                | ((with_reducible refine law_stx (.tmp 11) (.tmp 52) ?_ ?_ ?_ hst 2 gT T bn ms r false u (fun _ => 0) 0 0 0 false false ?_ ?_ ?_ ?_); rfl; rfl; rfl; rfl; rfl; rfl; clear hst; intro wx hst; replace hst : St w wx [(gA, aC fr al cr fi ai fo co true hn), (gX, xC T bn ms r false u), (gT, xC T bn ms r false u)] := hst))
              go_wp2_with (first
                | ((with_reducible refine law_lda (.tmp 3) ?_ ?_ hst 0 gA fr al cr fi ai fo co true hn ?_ ?_ ?_); rfl; rfl; rfl; rfl)
                | ((with_reducible refine law_x18 (.tmp 73) (.const (.int .i64 1)) ?_ ?_ ?_ hst 2 gT T bn ms r false u ?_ ?_ 1 ?_ ?_); rfl; rfl; rfl; rfl; rfl; rfl; clear hst; intro wx hst; replace hst : St w wx [(gA, aC fr al cr fi ai fo co true hn), (gX, xC T bn ms r false u), (gT, xC T bn ms 1 false u)] := hst)
                | ((with_reducible refine law_ldx (.tmp 11) ?_ ?_ hst 2 gT T bn ms 1 false u ?_ ?_ ?_); rfl; rfl; rfl; rfl)
                | (go_at_call 5; (with_reducible refine (missed_is fr al cr fi ai fo co true hn T bn ms 1 false u false (mb_never _ _ _ _ _ _ _ kn.out ks.out (by decide)) _).mono ?_); rintro e wy ⟨rfl, hby⟩; replace hst := hst.call hby; clear hby))
              go_ret
              exact ⟨rfl, hst.below⟩
          · by_cases kt : 2 ≤ cr
            · skip
              go_upto_region 16 with (first
                | ((with_reducible refine law_l7 (.tmp 33) ?_ ?_ hst 0 gA fr al cr fi ai fo co true hn ?_ ?_ ?_); rfl; rfl; rfl; rfl)
                | ((with_reducible refine law_l2 (.tmp 37) ?_ ?_ hst 0 gA fr al cr fi ai fo co true hn ?_ ?_ ?_); rfl; rfl; rfl; rfl)
                | ((with_reducible refine law_l0 (.tmp 41) ?_ ?_ hst 0 gA fr al cr fi ai fo co true hn ?_ ?_ ?_); rfl; rfl; rfl; rfl)
                | ((with_reducible refine law_l2 (.tmp 43) ?_ ?_ hst 0 gA fr al cr fi ai fo co true hn ?_ ?_ ?_); rfl; rfl; rfl; rfl)
                | ((with_reducible refine law_l19 (.tmp 47) ?_ ?_ hst 1 gX T bn ms r true u ?_ ?_ ?_); rfl; rfl; rfl; rfl)
                | ((with_reducible refine law_l2 (.tmp 50) ?_ ?_ hst 0 gA fr al cr fi ai fo co true hn ?_ ?_ ?_); rfl; rfl; rfl; rfl)
                | ((with_reducible refine law_ldx (.tmp 4) ?_ ?_ hst 1 gX T bn ms r true u ?_ ?_ ?_); rfl; rfl; rfl; rfl)
                | ((with_reducible refine law_alx ?_ 11 ?_ ?_ hst ?_); rfl; rfl; rfl; clear hst; intro gT wx hst; replace hst : St w wx [(gA, aC fr al cr fi ai fo co true hn), (gX, xC T bn ms r true u), (gT, xC (fun _ => 0) 0 0 0 false false)] := hst)
                | ((with_reducible refine law_stx (.tmp 11) (.tmp 52) ?_ ?_ ?_ hst 2 gT T bn ms r true u (fun _ => 0) 0 0 0 false false ?_ ?_ ?_ ?_); rfl; rfl; rfl; rfl; rfl; rfl; clear hst; intro wx hst; replace hst : St w wx [(gA, aC fr al cr fi ai fo co true hn), (gX, xC T bn ms r true u), (gT, xC T bn ms r true u)] := hst))
              go_wp2_with (first
                | ((with_reducible refine law_lda (.tmp 3) ?_ ?_ hst 0 gA fr al cr fi ai fo co true hn ?_ ?_ ?_); rfl; rfl; rfl; rfl)
                | ((with_reducible refine law_x18 (.tmp 57) (.tmp 56) ?_ ?_ ?_ hst 2 gT T bn ms r true u ?_ ?_ cr ?_ ?_); rfl; rfl; rfl; rfl; rfl; rfl; clear hst; intro wx hst; replace hst : St w wx [(gA, aC fr al cr fi ai fo co true hn), (gX, xC T bn ms r true u), (gT, xC T bn ms cr true u)] := hst)
                | ((with_reducible refine law_ldx (.tmp 11) ?_ ?_ hst 2 gT T bn ms cr true u ?_ ?_ ?_); rfl; rfl; rfl; rfl)
                | (go_at_call 5; (with_reducible refine (missed_is fr al cr fi ai fo co true hn T bn ms cr true u true (mb_cat _ _ _ _ _ kt) _).mono ?_); rintro e wy ⟨rfl, hby⟩; replace hst := hst.call hby; clear hby)
                | ((with_reducible refine law_x18 (.tmp 64) (.tmp 63) ?_ ?_ ?_ hst 2 gT T bn ms cr true u ?_ ?_ (cr - 1) ?_ ?_); rfl; rfl; rfl; rfl; rfl; rfl; clear hst; intro wx hst; replace hst : St w wx [(gA, aC fr al cr fi ai fo co true hn), (gX, xC T bn ms r true u), (gT, xC T bn ms (cr - 1) true u)] := hst)
                | ((with_reducible refine law_ldx (.tmp 11) ?_ ?_ hst 2 gT T bn ms (cr - 1) true u ?_ ?_ ?_); rfl; rfl; rfl; rfl)
                | (go_at_call 5; (with_reducible refine (missed_is fr al cr fi ai fo co true hn T bn ms (cr - 1) true u false (mb_cbef _ _ _ _ _ kt) _).mono ?_); rintro e wy ⟨rfl, hby⟩; replace hst := hst.call hby; clear hby))
              go_ret
              exact ⟨rfl, hst.below⟩
            · have kt : cr < 2 := by omega
              go_upto_region 16 with (first
                | ((with_reducible refine law_l7 (.tmp 33) ?_ ?_ hst 0 gA fr al cr fi ai fo co true hn ?_ ?_ ?_); rfl; rfl; rfl; rfl)
                | ((with_reducible refine law_l2 (.tmp 37) ?_ ?_ hst 0 gA fr al cr fi ai fo co true hn ?_ ?_ ?_); rfl; rfl; rfl; rfl)
                | ((with_reducible refine law_l0 (.tmp 41) ?_ ?_ hst 0 gA fr al cr fi ai fo co true hn ?_ ?_ ?_); rfl; rfl; rfl; rfl)
                | ((with_reducible refine law_l2 (.tmp 43) ?_ ?_ hst 0 gA fr al cr fi ai fo co true hn ?_ ?_ ?_); rfl; rfl; rfl; rfl)
                | ((with_reducible refine law_l19 (.tmp 47) ?_ ?_ hst 1 gX T bn ms r true u ?_ ?_ ?_); rfl; rfl; rfl; rfl)
                | ((with_reducible refine law_l2 (.tmp 50) ?_ ?_ hst 0 gA fr al cr fi ai fo co true hn ?_ ?_ ?_); rfl; rfl; rfl; rfl)
                | ((with_reducible refine law_ldx (.tmp 4) ?_ ?_ hst 1 gX T bn ms r true u ?_ ?_ ?_); rfl; rfl; rfl; rfl)
                | ((with_reducible refine law_alx ?_ 11 ?_ ?_ hst ?_); rfl; rfl; rfl; clear hst; intro gT wx hst; replace hst : St w wx [(gA, aC fr al cr fi ai fo co true hn), (gX, xC T bn ms r true u), (gT, xC (fun _ => 0) 0 0 0 false false)] := hst)
                | ((with_reducible refine law_stx (.tmp 11) (.tmp 52) ?_ ?_ ?_ hst 2 gT T bn ms r true u (fun _ => 0) 0 0 0 false false ?_ ?_ ?_ ?_); rfl; rfl; rfl; rfl; rfl; rfl; clear hst; intro wx hst; replace hst : St w wx [(gA, aC fr al cr fi ai fo co true hn), (gX, xC T bn ms r true u), (gT, xC T bn ms r true u)] := hst))
              go_wp2_with (first
                | ((with_reducible refine law_lda (.tmp 3) ?_ ?_ hst 0 gA fr al cr fi ai fo co true hn ?_ ?_ ?_); rfl; rfl; rfl; rfl)
                | ((with_reducible refine law_x18 (.tmp 68) (.const (.int .i64 1)) ?_ ?_ ?_ hst 2 gT T bn ms r true u ?_ ?_ 1 ?_ ?_); rfl; rfl; rfl; rfl; rfl; rfl; clear hst; intro wx hst; replace hst : St w wx [(gA, aC fr al cr fi ai fo co true hn), (gX, xC T bn ms r true u), (gT, xC T bn ms 1 true u)] := hst)
                | ((with_reducible refine law_ldx (.tmp 11) ?_ ?_ hst 2 gT T bn ms 1 true u ?_ ?_ ?_); rfl; rfl; rfl; rfl)
                | (go_at_call 5; (with_reducible refine (missed_is fr al cr fi ai fo co true hn T bn ms 1 true u true (mb_cat1 _ _ _ _ _ kp kt) _).mono ?_); rintro e wy ⟨rfl, hby⟩; replace hst := hst.call hby; clear hby))
              go_ret
              exact ⟨rfl, hst.below⟩
        · have kpd : decide (0 < cr) = false := decide_eq_false kp
          have kn : Hid (¬ (true = false ∧ cr = 0)) := fun h => Bool.noConfusion h.1
          have ks : Hid (s = false ∨ ¬ 0 < cr) := Or.inr kp
          by_cases kt : 1 ≤ r2
          · skip
            go_upto_region 16 with (first
              | ((with_reducible refine law_l7 (.tmp 33) ?_ ?_ hst 0 gA fr al cr fi ai fo co true hn ?_ ?_ ?_); rfl; rfl; rfl; rfl)
              | ((with_reducible refine law_l2 (.tmp 37) ?_ ?_ hst 0 gA fr al cr fi ai fo co true hn ?_ ?_ ?_); rfl; rfl; rfl; rfl)
              | ((with_reducible refine law_l0 (.tmp 41) ?_ ?_ hst 0 gA fr al cr fi ai fo co true hn ?_ ?_ ?_); rfl; rfl; rfl; rfl)
              | ((with_reducible refine law_l2 (.tmp 43) ?_ ?_ hst 0 gA fr al cr fi ai fo co true hn ?_ ?_ ?_); rfl; rfl; rfl; rfl)
              | ((with_reducible refine law_l19 (.tmp 47) ?_ ?_ hst 1 gX T bn ms r s u ?_ ?_ ?_); rfl; rfl; rfl; rfl)
              | ((with_reducible refine law_l2 (.tmp 50) ?_ ?_ hst 0 gA fr al cr fi ai fo co true hn ?_ ?_ ?_); rfl; rfl; rfl; rfl)
              | ((with_reducible refine law_ldx (.tmp 4) ?_ ?_ hst 1 gX T bn ms r s u ?_ ?_ ?_); rfl; rfl; rfl; rfl)
              | ((with_reducible refine law_alx ?_ 11 ?_ ?_ hst ?_); rfl; rfl; rfl; clear hst; intro gT wx hst; replace hst : St w wx [(gA, aC fr al cr fi ai fo co true hn), (gX, xC T bn ms r s u), (gT, xC (fun _ => 0) 0 0 0 false false)] := hst)
              | ((with_reducible refine law_stx (.tmp 11) (.tmp 52) ?_ ?_ ?_ hst 2 gT T bn ms r s u (fun _ => 0) 0 0 0 false false ?_ ?_ ?_ ?_); rfl; rfl; rfl; rfl; rfl; rfl; clear hst; intro wx hst; replace hst : St w wx [(gA, aC fr al cr fi ai fo co true hn), (gX, xC T bn ms r s u), (gT, xC T bn ms r s u)] := hst))
            go_wp2_with (first
              | ((with_reducible refine law_lda (.tmp 3) ?_ ?_ hst 0 gA fr al cr fi ai fo co true hn ?_ ?_ ?_); rfl; rfl; rfl; rfl)
              | ((with_reducible refine law_x18 (.tmp 73) (.const (.int .i64 1)) ?_ ?_ ?_ hst 2 gT T bn ms r s u ?_ ?_ 1 ?_ ?_); rfl; rfl; rfl; rfl; rfl; rfl; clear hst; intro wx hst; replace hst : St w wx [(gA, aC fr al cr fi ai fo co true hn), (gX, xC T bn ms r s u), (gT, xC T bn ms 1 s u)] := hst)
              | ((with_reducible refine law_x18 (.tmp 77) (.tmp 76) ?_ ?_ ?_ hst 2 gT T bn ms 1 s u ?_ ?_ r2 ?_ ?_); rfl; rfl; rfl; rfl; rfl; rfl; clear hst; intro wx hst; replace hst : St w wx [(gA, aC fr al cr fi ai fo co true hn), (gX, xC T bn ms r s u), (gT, xC T bn ms r2 s u)] := hst)
              | ((with_reducible refine law_ldx (.tmp 11) ?_ ?_ hst 2 gT T bn ms r2 s u ?_ ?_ ?_); rfl; rfl; rfl; rfl)
              | (go_at_call 5; (with_reducible refine (missed_is fr al cr fi ai fo co true hn T bn ms r2 s u false (mb_never _ _ _ _ _ _ _ kn.out ks.out kt) _).mono ?_); rintro e wy ⟨rfl, hby⟩; replace hst := hst.call hby; clear hby))
            go_ret
            exact ⟨rfl, hst.below⟩
          · skip
            go_upto_region 16 with (first
              | ((with_reducible refine law_l7 (.tmp 33) ?_ ?_ hst 0 gA fr al cr fi ai fo co true hn ?_ ?_ ?_); rfl; rfl; rfl; rfl)
              | ((with_reducible refine law_l2 (.tmp 37) ?_ ?_ hst 0 gA fr al cr fi ai fo co true hn ?_ ?_ ?_); rfl; rfl; rfl; rfl)
              | ((with_reducible refine law_l0 (.tmp 41) ?_ ?_ hst 0 gA fr al cr fi ai fo co true hn ?_ ?_ ?_); rfl; rfl; rfl; rfl)
              | ((with_reducible refine law_l2 (.tmp 43) ?_ ?_ hst 0 gA fr al cr fi ai fo co true hn ?_ ?_ ?_); rfl; rfl; rfl; rfl)
              | ((with_reducible refine law_l19 (.tmp 47) ?_ ?_ hst 1 gX T bn ms r s u ?_ ?_ ?_); rfl; rfl; rfl; rfl)
              | ((with_reducible refine law_l2 (.tmp 50) ?_ ?_ hst 0 gA fr al cr fi ai fo co true hn ?_ ?_ ?_); rfl; rfl; rfl; rfl)
              | ((with_reducible refine law_ldx (.tmp 4) ?_ ?_ hst 1 gX T bn ms r s u ?_ ?_ ?_); rfl; rfl; rfl; rfl)
              | ((with_reducible refine law_alx ?_ 11 ?_ ?_ hst ?_); rfl; rfl; rfl; clear hst; intro gT wx hst; replace hst : St w wx [(gA, aC fr al cr fi ai fo co true hn), (gX, xC T bn ms r s u), (gT, xC (fun _ => 0) 0 0 0 false false)] := hst)
              | ((with_reducible refine law_stx (.tmp 11) (.tmp 52) ?_ ?_ ?_ hst 2 gT T bn ms r s u (fun _ => 0) 0 0 0 false false ?_ ?_ ?_ ?_); rfl; rfl; rfl; rfl; rfl; rfl; clear hst; intro wx hst; replace hst : St w wx [(gA, aC fr al cr fi ai fo co true hn), (gX, xC T bn ms r s u), (gT, xC T bn ms r s u)] := hst))
            go_wp2_with (first
              | ((with_reducible refine law_lda (.tmp 3) ?_ ?_ hst 0 gA fr al cr fi ai fo co true hn ?_ ?_ ?_); rfl; rfl; rfl; rfl)
              | ((with_reducible refine law_x18 (.tmp 73) (.const (.int .i64 1)) ?_ ?_ ?_ hst 2 gT T bn ms r s u ?_ ?_ 1 ?_ ?_); rfl; rfl; rfl; rfl; rfl; rfl; clear hst; intro wx hst; replace hst : St w wx [(gA, aC fr al cr fi ai fo co true hn), (gX, xC T bn ms r s u), (gT, xC T bn ms 1 s u)] := hst)
              | ((with_reducible refine law_ldx (.tmp 11) ?_ ?_ hst 2 gT T bn ms 1 s u ?_ ?_ ?_); rfl; rfl; rfl; rfl)
              | (go_at_call 5; (with_reducible refine (missed_is fr al cr fi ai fo co true hn T bn ms 1 s u false (mb_never _ _ _ _ _ _ _ kn.out ks.out (by decide)) _).mono ?_); rintro e wy ⟨rfl, hby⟩; replace hst := hst.call hby; clear hby))
            go_ret
            exact ⟨rfl, hst.below⟩

end Go.Proofs.Qxb6617607a
