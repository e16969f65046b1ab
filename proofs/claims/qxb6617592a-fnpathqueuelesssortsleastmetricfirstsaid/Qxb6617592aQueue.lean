import Derived.Test.Qxb6617592aLess
namespace Go.Proofs.Qxb6617592a
open Go.RowKit

theorem Try.info30 : (Try.prog.info? 30).map (fun i => (i.zero, i.size, i.bytes)) = some (some (.agg #[.int .i64 0, .int .i64 0]), 2, 16) := by kernel_rfl

/-- A queue of n path ends at block g, of which the first k bear the metrics M. -/
def QRow (w : World) (g n k : Nat) (M : Nat → Int) : Prop :=
  (∀ o, o < n * 2 → ∃ v, w.cell? ⟨g, o, none⟩ = some v) ∧ (∀ o, o < n * 2 → w.frozen? ⟨g, o, none⟩ = false) ∧ ∀ t, t < k → w.cell? ⟨g, t * 2 + 1, none⟩ = some (.int .i64 (M t))

theorem addr_ne {g a b : Nat} (h : a ≠ b) : (⟨g, a, none⟩ : Addr) ≠ ⟨g, b, none⟩ := by
  intro e; cases e; exact h rfl

theorem QRow.step {w : World} {g n k : Nat} {M : Nat → Int} (h : QRow w g n k M) (hk : k < n) (x : Value) :
    QRow ((w.setCell ⟨g, k * 2, none⟩ x).setCell ⟨g, k * 2 + 1, none⟩ (.int .i64 (M k))) g n (k + 1) M := by
  obtain ⟨h1, h2, h3⟩ := h
  refine ⟨fun o ho => ?_, fun o ho => ?_, fun t ht => ?_⟩
  · obtain ⟨v, hv⟩ := h1 o ho
    obtain ⟨v1, hv1⟩ := cell?_setCell_some (p := ⟨g, k * 2, none⟩) (x := x) hv
    exact cell?_setCell_some hv1
  · rw [World.frozen?_setCell, World.frozen?_setCell]; exact h2 o ho
  · by_cases e : t = k
    · subst e
      obtain ⟨v, hv⟩ := h1 (t * 2 + 1) (by omega)
      obtain ⟨v1, hv1⟩ := cell?_setCell_some (p := ⟨g, t * 2, none⟩) (x := x) hv
      exact World.cell?_setCell_same _ _ _ hv1
    · rw [World.cell?_setCell_other _ _ _ _ (addr_ne (by omega)), World.cell?_setCell_other _ _ _ _ (addr_ne (by omega))]
      exact h3 t (by omega)

theorem QRow.drewN {w : World} {g n k : Nat} {M : Nat → Int} (h : QRow w g n k M) (q : Nat) : QRow (w.drewN q) g n k M := h

theorem QRow.made {w : World} {base g n : Nat} {xs : List Value} {M : Nat → Int} (h : w.ownsRow base 30 2 (.slice (some ⟨g, 0, none⟩) n n) n xs) (hx : xs.length = n * 2) : QRow w g n 0 M :=
  ⟨fun o ho => ⟨xs[o]'(by omega), by rw [h.cellAt o ho]; simp⟩, fun o _ => h.frozenAt o, fun t ht => absurd ht (Nat.not_lt_zero t)⟩

set_option maxHeartbeats 400000 in
theorem new_any (b0 o0 c0 b1 o1 c1 n : Nat) (R M : Nat → Int) (hn : n ≤ 1024) (w : World) (hb0 : b0 < w.heap.size) (hb1 : b1 < w.heap.size)
    (h0 : ∀ t, t < n → w.cell? ⟨b0, o0 + t, none⟩ = some (.int .i64 (R t))) (h1 : ∀ t, t < n → w.cell? ⟨b1, o1 + t, none⟩ = some (.int .i64 (M t))) :
    Calls Try.prog 5 #[.slice (some ⟨b0, o0, none⟩) n c0, .slice (some ⟨b1, o1, none⟩) n c1] w fun e w' =>
      e = .returned (.slice (some ⟨w.heap.size, 0, none⟩) n n) ∧ QRow w' w.heap.size n n M ∧ Below w.heap.size w w' ∧ w.heap.size < w'.heap.size := by
  obtain ⟨i0, hi, hz0, hz1, hz2⟩ := info_parts Try.info30
  go_enter Try.func5, Try.ntmps5
  go_wp2_with (at_make; refine wpList_make_full _ rfl _ _ 26 rfl w.heap.size 30 i0 _ 2 Try.underlying26 hi hz0 hz1 _ _ _ _ n rfl rfl rfl rfl ?b2 ?b3 (Nat.le_refl _) ?_)
  case b2 => rw [hz2]; omega
  case b3 => unfold maxLen; omega
  intro w0 hown0 hgrow0
  have hq0 : QRow w0 w.heap.size n 0 M := QRow.made hown0 (by simp [size_madeCells])
  have hs0 : w.heap.size < w0.heap.size := (hown0.lt _ rfl).2
  have hbe : Below w.heap.size w w0 := (Below.refl _ _).grown hgrow0 (Nat.le_refl _) (fun k h => by cases h)
  clear hown0 hgrow0
  go_wp2
  go_loopw [6] (fun i wr => ∃ k : Nat, k ≤ n ∧ i = .int .i64 k ∧ QRow wr w.heap.size n k M ∧ Below w.heap.size w wr ∧ w.heap.size < wr.heap.size) (fun i _ => n - (intOf i).toNat)
  case atStart => exact ⟨0, Nat.zero_le _, rfl, hq0, hbe, hs0⟩
  case round =>
    obtain ⟨k, hk, rfl, hq, hbel, hsz⟩ := hrel
    clear hq0 hs0 hbe
    by_cases hlt : k < n
    · have ca : wr.cell? ⟨b0, o0 + k, none⟩ = some (.int .i64 (R k)) := (hbel.cell (by exact hb0)).trans (h0 k hlt)
      have cb : wr.cell? ⟨b1, o1 + k, none⟩ = some (.int .i64 (M k)) := (hbel.cell (by exact hb1)).trans (h1 k hlt)
      obtain ⟨v1, cc⟩ := hq.1 (k * 2) (by omega)
      obtain ⟨v2, cd⟩ := hq.1 (k * 2 + 1) (by omega)
      have f1 := hq.2.1 (k * 2) (by omega)
      have f2 := hq.2.1 (k * 2 + 1) (by omega)
      go_wp2
      go_region
      all_goals go_wp2
      go_roundw
      case rel => exact ⟨k + 1, by omega, by go_num, (hq.step hlt _).drewN 1, ((hbel.setCell (Nat.le_refl _) _).setCell (Nat.le_refl _) _).drew, by simpa using hsz⟩
      case measure => simp [intOf]; omega
    · go_wp2
      go_ret
      obtain rfl : k = n := by omega
      exact ⟨rfl, hq, hbel, hsz⟩

/-- No element: whatever the two slices' addresses. -/
theorem new_none (a0 a1 : Option Addr) (c0 c1 : Nat) (w : World) :
    Calls Try.prog 5 #[.slice a0 0 c0, .slice a1 0 c1] w fun e w' => e = .returned (.slice (some ⟨w.heap.size, 0, none⟩) 0 0) ∧ Below w.heap.size w w' := by
  obtain ⟨i0, hi, hz0, hz1, hz2⟩ := info_parts Try.info30
  go_enter Try.func5, Try.ntmps5
  go_wp2_with (at_make; refine wpList_make_full _ rfl _ _ 26 rfl w.heap.size 30 i0 _ 2 Try.underlying26 hi hz0 hz1 _ _ _ _ 0 rfl rfl rfl rfl ?b2 ?b3 (Nat.le_refl _) ?_)
  case b2 => omega
  case b3 => unfold maxLen; omega
  intro w0 hown0 hgrow0
  have hbe : Below w.heap.size w w0 := (Below.refl _ _).grown hgrow0 (Nat.le_refl _) (fun k h => by cases h)
  clear hown0 hgrow0
  go_wp2
  go_loop [6] (fun i => i = .int .i64 0) (fun _ => 0)
  case atStart => rfl
  case round =>
    subst hrel
    go_wp2
    go_ret
    exact ⟨rfl, hbe⟩

end Go.Proofs.Qxb6617592a
