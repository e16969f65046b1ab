import Derived.Test.Qxb6617607aMissed
namespace Go.Proofs.Qxb6617607a
open Go.RowKit
set_option linter.unusedVariables false

theorem by_any (b : Nat) (fr cr : Int) (ow hn : Bool) (T : Nat → Int) (bn ms r : Int) (s u : Bool) (w : World) (hb : b < w.heap.size)
    (h0 : w.cell? ⟨b, 0, none⟩ = some (.int .i64 fr)) (h2 : w.cell? ⟨b, 2, none⟩ = some (.int .i64 cr)) (h7 : w.cell? ⟨b, 7, none⟩ = some (.bool ow)) (h8 : w.cell? ⟨b, 8, none⟩ = some (.bool hn)) :
    Calls Try.prog 7 #[.pointer (some ⟨b, 0, none⟩), .agg #[.int .u8 (T 0), .int .u8 (T 1), .int .u8 (T 2), .int .u8 (T 3), .int .u8 (T 4), .int .u8 (T 5), .int .u8 (T 6), .int .u8 (T 7), .int .u8 (T 8), .int .u8 (T 9), .int .u8 (T 10), .int .u8 (T 11), .int .u8 (T 12), .int .u8 (T 13), .int .u8 (T 14), .int .u8 (T 15), .int .u32 bn, .int .i64 ms, .int .i64 r, .bool s, .bool u]] w fun e w' => e = .returned (.bool (mb fr cr ow hn r s u)) ∧ Below w.heap.size w w' := by
  by_cases hr : r = 0
  · have c2 : (r == 0) = true := by simpa using hr
    cases ow
    · by_cases hc : cr = 0
      · rw [show mb fr cr false hn r s u = true by simp [mb, hc, hr]]
        exact by1 hn s u b fr cr T bn ms r w hb h0 h2 h7 h8 (by simpa using hc) c2
      · have c1 : (cr == 0) = false := by simpa using hc
        cases s
        · cases hn
          · rw [show mb fr cr false false r false u = false by simp [mb, hc, hr]]
            exact by3_false_false_false u b fr cr T bn ms r w hb h0 h2 h7 h8 c1 c2
          · rw [show mb fr cr false true r false u = u by simp [mb, hc, hr]]
            exact by3_false_false_true u b fr cr T bn ms r w hb h0 h2 h7 h8 c1 c2
        · rw [show mb fr cr false hn r true u = true by simp [mb, hc, hr]]
          exact by3_false_true_hn hn u b fr cr T bn ms r w hb h0 h2 h7 h8 c1 c2
    · cases s
      · cases hn
        · rw [show mb fr cr true false r false u = false by simp [mb, hr]]
          exact by3_true_false_false u b fr cr T bn ms r w hb h0 h2 h7 h8 c2
        · rw [show mb fr cr true true r false u = u by simp [mb, hr]]
          exact by3_true_false_true u b fr cr T bn ms r w hb h0 h2 h7 h8 c2
      · rw [show mb fr cr true hn r true u = true by simp [mb, hr]]
        exact by3_true_true_hn hn u b fr cr T bn ms r w hb h0 h2 h7 h8 c2
  · have c2 : (r == 0) = false := by simpa using hr
    cases ow
    · by_cases hc : cr = 0
      · rw [show mb fr cr false hn r s u = decide (fr ≤ r) by simp [mb, hc, hr]]
        exact by2 hn s u b fr cr T bn ms r w hb h0 h2 h7 h8 (by simpa using hc) c2
      · have c1 : (cr == 0) = false := by simpa using hc
        cases s
        · rw [show mb fr cr false hn r false u = false by simp [mb, hc, hr]]
          exact by4_false hn u b fr cr T bn ms r w hb h0 h2 h7 h8 c1 c2
        · by_cases h3 : 0 < cr
          · rw [show mb fr cr false hn r true u = decide (cr ≤ r) by simp [mb, hc, hr, h3]]
            exact by6_false hn u b fr cr T bn ms r w hb h0 h2 h7 h8 c1 c2 h3
          · rw [show mb fr cr false hn r true u = false by simp [mb, hc, hr, h3]]
            exact by5_false hn u b fr cr T bn ms r w hb h0 h2 h7 h8 c1 c2 (decide_eq_false h3)
    · cases s
      · rw [show mb fr cr true hn r false u = false by simp [mb, hr]]
        exact by4_true hn u b fr cr T bn ms r w hb h0 h2 h7 h8 c2
      · by_cases h3 : 0 < cr
        · rw [show mb fr cr true hn r true u = decide (cr ≤ r) by simp [mb, hr, h3]]
          exact by6_true hn u b fr cr T bn ms r w hb h0 h2 h7 h8 c2 h3
        · rw [show mb fr cr true hn r true u = false by simp [mb, hr, h3]]
          exact by5_true hn u b fr cr T bn ms r w hb h0 h2 h7 h8 c2 (decide_eq_false h3)

set_option maxRecDepth 1000000 in
set_option maxHeartbeats 1000000 in
theorem zz_any (fr al cr fi ai fo co : Int) (ow hn : Bool) (T : Nat → Int) (bn ms r : Int) (s u : Bool) (w : World) :
    Calls Try.prog 6 #[.int .i64 fr, .int .i64 al, .int .i64 cr, .int .i64 fi, .int .i64 ai, .int .i64 fo, .int .i64 co, .bool ow, .bool hn, .agg #[.int .u8 (T 0), .int .u8 (T 1), .int .u8 (T 2), .int .u8 (T 3), .int .u8 (T 4), .int .u8 (T 5), .int .u8 (T 6), .int .u8 (T 7), .int .u8 (T 8), .int .u8 (T 9), .int .u8 (T 10), .int .u8 (T 11), .int .u8 (T 12), .int .u8 (T 13), .int .u8 (T 14), .int .u8 (T 15)], .int .u32 bn, .int .i64 ms, .int .i64 r, .bool s, .bool u] w
      fun e w' => e = .returned (.bool (mb fr cr ow hn r s u)) ∧ Below w.heap.size w w' := by
  go_enter Try.func6, Try.ntmps6
  go_wp2_with (go_at_call 7; refine (by_any (w.heap.size + 1) fr cr ow hn T bn ms r s u _ (by simp) (by simp) (by simp) (by simp) (by simp)).mono ?_; rintro e w' ⟨rfl, hb⟩)
  go_ret
  exact ⟨rfl, (((Below.refl _ _).alloc (Nat.le_refl _) _).alloc (by simp) _).trans (hb.mono (by simp; omega))⟩

set_option maxRecDepth 1000000 in
set_option maxHeartbeats 1000000 in
theorem missed_any (fr al cr fi ai fo co : Int) (ow hn : Bool) (T : Nat → Int) (bn ms r : Int) (s u : Bool) (w : World) :
    Calls Try.prog 5 #[.agg #[.int .i64 fr, .int .i64 al, .int .i64 cr, .int .i64 fi, .int .i64 ai, .int .i64 fo, .int .i64 co, .bool ow, .bool hn], .agg #[.int .u8 (T 0), .int .u8 (T 1), .int .u8 (T 2), .int .u8 (T 3), .int .u8 (T 4), .int .u8 (T 5), .int .u8 (T 6), .int .u8 (T 7), .int .u8 (T 8), .int .u8 (T 9), .int .u8 (T 10), .int .u8 (T 11), .int .u8 (T 12), .int .u8 (T 13), .int .u8 (T 14), .int .u8 (T 15), .int .u32 bn, .int .i64 ms, .int .i64 r, .bool s, .bool u]] w
      fun e w' => e = .returned (.bool (mb fr cr ow hn r s u)) ∧ Below w.heap.size w w' := by
  go_enter Try.func5, Try.ntmps5
  go_wp2_with (go_at_call 6; refine (zz_any fr al cr fi ai fo co ow hn T bn ms r s u _).mono ?_; rintro e w' ⟨rfl, hb⟩)
  go_ret
  exact ⟨rfl, (((Below.refl _ _).alloc (Nat.le_refl _) _).alloc (by simp) _).trans (hb.mono (by simp; omega))⟩

end Go.Proofs.Qxb6617607a
