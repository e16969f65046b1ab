import Derived.Test.Qxb6617592aParts
namespace Go.Proofs.Qxb6617592a
open Go.RowKit

theorem Try.info3 : (Try.prog.info? 3).map (fun i => (i.zero, i.size, i.bytes)) = some (some (.int .i64 0), 1, 8) := by kernel_rfl
theorem Try.info2 : (Try.prog.info? 2).map (fun i => (i.zero, i.size, i.bytes)) = some (some (.int .i64 0), 1, 8) := by kernel_rfl
theorem Try.size3 : (Try.prog.info? 3).map (·.size) = some 1 := by kernel_rfl
theorem Try.size2 : (Try.prog.info? 2).map (·.size) = some 1 := by kernel_rfl

set_option maxRecDepth 1000000 in
set_option maxHeartbeats 1000000 in
theorem main_pos (b0 o0 c0 b1 o1 c1 n : Nat) (R M : Nat → Int) (h0n : 0 < n) (hn : n ≤ 1024) (w : World) (hbb0 : b0 < w.heap.size) (hbb1 : b1 < w.heap.size)
    (h0 : ∀ t, t < n → w.cell? ⟨b0, o0 + t, none⟩ = some (.int .i64 (R t))) (h1 : ∀ t, t < n → w.cell? ⟨b1, o1 + t, none⟩ = some (.int .i64 (M t))) :
    Calls Try.prog 3 #[.slice (some ⟨b0, o0, none⟩) n c0, .slice (some ⟨b1, o1, none⟩) n c1] w fun e w' => e = .returned (.bool true) ∧ Below w.heap.size w w' := by
  obtain ⟨i3, i3i, i3z, i3s, i3b⟩ := info_parts Try.info3
  obtain ⟨i2, i2i, i2z, i2s, i2b⟩ := info_parts Try.info2
  have hnm : n ≤ maxLen := by unfold maxLen; omega
  have q22 := fun w => run_neq_slice_nil_any (P := Try.prog) w 22 3 (some ⟨b0, o0, none⟩) n c0 0 0 Try.underlying22
  have q23 := fun w => run_neq_slice_nil_any (P := Try.prog) w 23 2 (some ⟨b1, o1, none⟩) n c1 0 0 Try.underlying23
  go_enter Try.func3, Try.ntmps3
  go_wp2_with (first
    | (go_at_call 4; refine (bytes_any _ _ _ _ _ _ hnm hnm _).mono ?_; rintro e w' ⟨⟨b, rfl⟩, rfl⟩)
    | (at_make; refine wpList_make_full _ rfl (.tmp 35) (.tmp 35) 22 rfl w.heap.size 3 i3 _ 1 Try.underlying22 i3i i3z i3s _ _ _ _ n rfl rfl rfl rfl (by rw [i3b]; omega) hnm (Nat.le_refl _) ?_; intro w1 hown1 hgrow1; obtain ⟨cur1, hg1, hc1⟩ := own_block hown1; have hb1 := (Below.refl w.heap.size _).grown hgrow1 (Nat.le_refl _) (fun k h => by cases h); have hz1 : w.heap.size < w1.heap.size := (hown1.lt _ rfl).2; clear hown1 hgrow1)
    | (refine wpList_copy_whole rfl (.tmp 37) (.tmp 38) 22 22 rfl 3 Try.underlying22 Try.size3 w.heap.size n n b0 o0 c0 rfl rfl cur1 3 hg1 hc1 R (fun j hj => (hb1.cell (by exact hbb0)).trans (h0 j hj)) ?_; intro w2 hm2 hb2; have hb2 := hb1.trans hb2; have hz2 : w.heap.size < w2.heap.size := Nat.lt_of_lt_of_le hz1 (by assumption : Below w.heap.size w1 w2).size; clear hg1 hc1 hb1 hz1)
    | (at_make; refine wpList_make_full _ rfl (.tmp 44) (.tmp 44) 23 rfl w2.heap.size 2 i2 _ 1 Try.underlying23 i2i i2z i2s _ _ _ _ n rfl rfl rfl rfl (by rw [i2b]; omega) hnm (Nat.le_refl _) ?_; intro w3 hown3 hgrow3; obtain ⟨cur3, hg3, hc3⟩ := own_block hown3; have hb3 := (Below.refl w2.heap.size _).grown hgrow3 (Nat.le_refl _) (fun k h => by cases h); have hz3 : w2.heap.size < w3.heap.size := (hown3.lt _ rfl).2; clear hown3 hgrow3)
    | (refine wpList_copy_whole rfl (.tmp 46) (.tmp 47) 23 23 rfl 2 Try.underlying23 Try.size2 w2.heap.size n n b1 o1 c1 rfl rfl cur3 2 hg3 hc3 M (fun j hj => ((hb2.trans (hb3.mono (Nat.le_of_lt hz2))).cell (by exact hbb1)).trans (h1 j hj)) ?_; intro w4 hm4 hb4; have hz4 : w2.heap.size < w4.heap.size := Nat.lt_of_lt_of_le hz3 hb4.size; have hb4 := hb3.trans hb4; have hr4 : MRow w4 w.heap.size n R := (fun t ht => (hb4.cell (by exact hz2)).trans (hm2 t ht)); clear hg3 hc3 hb3 hz3 hm2)
    | (go_at_call 5; refine (new_any w.heap.size 0 n w2.heap.size 0 n n R M hn w4 (by omega) hz4 (fun t ht => by rw [Nat.zero_add]; exact hr4 t ht) (fun t ht => by rw [Nat.zero_add]; exact hm4 t ht)).mono ?_; rintro e w5 ⟨rfl, hq5, hb5, hz5⟩)
    | (at_make; refine wpList_make_full _ rfl (.tmp 55) (.tmp 55) 22 rfl w5.heap.size 3 i3 _ 1 Try.underlying22 i3i i3z i3s _ _ _ _ n rfl rfl rfl rfl (by rw [i3b]; omega) hnm (Nat.le_refl _) ?_; intro w6 hown6 hgrow6))
  · go_ret
    exact ⟨rfl, Below.refl _ _⟩
  have hM5 : MRow w5 w2.heap.size n M := fun t ht => (hb5.cell (by exact hz4)).trans (hm4 t ht)
  have hB5 : Below w.heap.size w w5 := (hb2.trans (hb4.mono (Nat.le_of_lt hz2))).trans (hb5.mono (by omega))
  have hP6 : PRow w6 w5.heap.size n (fun _ => 0) := PRow.made hown6
  have hb6 : Below w5.heap.size w5 w6 := (Below.refl w5.heap.size _).grown hgrow6 (Nat.le_refl _) (fun k h => by cases h)
  have hz25 : w2.heap.size < w5.heap.size := by omega
  have hz05 : w.heap.size ≤ w5.heap.size := by omega
  have hq5' := hq5.2.2
  clear hm4 hb2 hb4 hb5 hown6 hgrow6 hr4 h0 h1 q22 q23 hq5
  go_wp2
  go_loopw [10] (fun i wr => ∃ k : Nat, k ≤ n ∧ i = .int .i64 k ∧ PRow wr w5.heap.size n (fun t => if t < k then t else 0) ∧ Below w5.heap.size w5 wr) (fun i _ => n - (intOf i).toNat)
  case atStart => exact ⟨0, Nat.zero_le _, rfl, hP6.congr (fun t _ => by simp), hb6⟩
  case round =>
    obtain ⟨k, hk, rfl, hP, hb⟩ := hrel
    clear hP6 hb6
    by_cases hlt : k < n
    · have ck := hP.1 k hlt
      have fk := hP.2 k hlt
      go_wp2
      go_roundw
      case rel => exact ⟨k + 1, by omega, by go_num, (hP.set k hlt k).congr (fun t _ => by by_cases e : t = k <;> by_cases e2 : t < k <;> simp [e, e2] <;> omega), hb.setCell (Nat.le_refl _) _⟩
      case measure => simp [intOf]; omega
    · obtain rfl : n = k := by omega
      have hPn : PRow wr w5.heap.size n (fun t => t) := hP.congr (fun t ht => by simp [ht])
      have hbn : Below w5.heap.size w5 wr := hb
      clear hP hb
      go_wp2
      go_loopw [11] (fun i wr => ∃ (k : Nat) (p : Nat → Nat), 1 ≤ k ∧ k ≤ n ∧ i = .int .i64 k ∧ PRow wr w5.heap.size n p ∧ Outr M k p ∧ Below w5.heap.size w5 wr) (fun i _ => n - (intOf i).toNat)
      case atStart => exact ⟨1, fun t => t, Nat.le_refl _, h0n, rfl, hPn, Outr.start M, hbn⟩
      case round =>
        obtain ⟨k, p, hk1, hkn, rfl, hP, hO, hb⟩ := hrel
        clear hPn hbn
        by_cases hlt : k < n
        · have HO : Hid (Outr M k p) := hO
          clear hO
          go_wp2
          go_loopw [12] (fun v wr => ∃ (m : Nat) (p : Nat → Nat), m ≤ k ∧ v = .int .i64 m ∧ PRow wr w5.heap.size n p ∧ Innr M k m p ∧ (∀ t, t < n → p t < n) ∧ Below w5.heap.size w5 wr) (fun v _ => (intOf v).toNat)
          case atStart => exact ⟨k, p, Nat.le_refl _, rfl, hP, HO.out.enter, fun t ht => by have h1 := HO.out.1 t; have h2 := HO.out.2.1 t; omega, hb⟩
          case round =>
            obtain ⟨m, p', hmk, rfl, hP', hI, hpn, hb'⟩ := hrel
            have HI : Hid (Innr M k m p') := hI
            clear hI hP hb
            have hq' : ∀ t, t < n → wr.cell? ⟨w4.heap.size, t * 2 + 1, none⟩ = some (.int .i64 (M t)) := fun t ht => (hb'.cell (by exact hz5)).trans (hq5' t ht)
            by_cases hm : 0 < m
            · have cm := hP'.1 m (by omega)
              have cm1 := hP'.1 (m - 1) (by omega)
              have fm := hP'.2 m (by omega)
              have fm1 := hP'.2 (m - 1) (by omega)
              have l1 := hpn m (by omega)
              have l2 := hpn (m - 1) (by omega)
              have im : (0 : Int) < (m : Int) := by omega
              have im1 : (m : Int) < (n : Int) := by omega
              have im2 : (0 : Int) ≤ (m : Int) - 1 := by omega
              have im3 : (m : Int) - 1 < (n : Int) := by omega
              go_wp2
              go_quiet ((go_at_call 6; exact Calls.quiet_of (zzless_any w4.heap.size n n M (p' m) (p' (m - 1)) l1 l2 _ hq')))
              by_cases hl : M (p' m) < M (p' (m - 1))
              · go_wp2
                go_roundw
                case rel =>
                  refine ⟨m - 1, swp p' m, by omega, by congr 1; omega, ?_, HI.out.swap hm hl, ?_, ?_⟩
                  · exact (hP'.swap hm (by omega)).drewN nq
                  · intro t ht; unfold swp; split <;> (try split) <;> (first | assumption | exact hpn t ht)
                  · exact ((below_drewN hb' nq).setCell (Nat.le_refl _) _).setCell (Nat.le_refl _) _
                case measure => simp [intOf]; omega
              · go_wp2
                go_roundw
                case rel => exact ⟨k + 1, p', by omega, by omega, by go_num, hP', HI.out.leave (Or.inr hl), below_drewN hb' nq⟩
                case measure => simp [intOf]; omega
            · have hd : decide ((0 : Int) < (m : Int)) = false := decide_eq_false (by omega)
              go_wp2
              go_quiet (fail)
              go_wp2
              go_roundw
              case rel => exact ⟨k + 1, p', by omega, by omega, by go_num, hP', HI.out.leave (Or.inl (by omega)), below_drewN hb' nq⟩
              case measure => simp [intOf]; omega
        · obtain rfl : n = k := by omega
          have HO : Hid (Outr M n p) := hO
          clear hO
          go_wp2
          go_loopw [14] (fun i wr' => ∃ k : Nat, 1 ≤ k ∧ k ≤ n ∧ i = .int .i64 k ∧ (∃ q, wr' = wr.drewN q)) (fun i _ => n - (intOf i).toNat)
          case atStart => exact ⟨1, Nat.le_refl _, h0n, rfl, 0, rfl⟩
          case round =>
            obtain ⟨k, hk1, hkn, rfl, q, rfl⟩ := hrel
            by_cases hlt : k < n
            · have ca := hP.1 (k - 1) (by omega)
              have cb := hP.1 k hlt
              have la := HO.out.1 (k - 1) (by omega)
              have lb := HO.out.1 k (by omega)
              have cma := (hb.cell (p := ⟨w2.heap.size, p (k - 1), none⟩) (by exact hz25)).trans (hM5 _ la)
              have cmb := (hb.cell (p := ⟨w2.heap.size, p k, none⟩) (by exact hz25)).trans (hM5 _ lb)
              have hbf := HO.out.2.2 (k - 1) (by omega)
              rw [show k - 1 + 1 = k by omega] at hbf
              unfold Bef at hbf
              have ik0 : (0 : Int) ≤ (k : Int) - 1 := by omega
              have ik1 : (k : Int) - 1 < (n : Int) := by omega
              have ik2 : (k : Int) < (n : Int) := by omega
              generalize M (p (k - 1)) = A at cma hbf
              generalize M (p k) = C at cmb hbf
              rcases hbf with hbf | ⟨rfl, hbf⟩
              · have g1 : ¬ C < A := by omega
                have g2 : (A == C) = false := by simp; omega
                go_wp2
                go_quiet (fail)
                go_wp2
                go_roundw
                case rel => exact ⟨k + 1, by omega, by omega, by go_num, _, rfl⟩
                case measure => simp [intOf]; omega
              · have g1 : ¬ A < A := by omega
                have g2 : (A == A) = true := by simp
                have g3 : ¬ ((p k : Int) < (p (k - 1) : Int)) := by omega
                go_wp2
                go_quiet (fail)
                go_wp2
                go_roundw
                case rel => exact ⟨k + 1, by omega, by omega, by go_num, _, rfl⟩
                case measure => simp [intOf]; omega
            · go_wp2
              go_ret
              exact ⟨rfl, below_drewN (hB5.trans (hb.mono hz05)) q⟩

end Go.Proofs.Qxb6617592a
