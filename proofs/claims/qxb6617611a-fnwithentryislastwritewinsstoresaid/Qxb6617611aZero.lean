import Derived.Test.Qxb6617611aMain
namespace Go.Proofs.Qxb6617611a
open Go.RowKit
set_option linter.unusedVariables false

set_option maxRecDepth 1000000 in
set_option maxHeartbeats 2000000 in
/-- An empty script. -/
theorem main_zero (a : Option Addr) (c : Nat) (k v : ByteArray) (w : World) :
    Calls Try.prog 3 #[.slice a 0 c, .string k, .string v] w fun e w' => e = .returned (.bool true) ∧ Below w.heap.size w w' := by
  obtain ⟨i9, i9i, i9z, i9s, i9b⟩ := info_parts Try.info9
  have hnil := fun w => run_eql_map_nil (P := Try.prog) w 28 9 9 none Try.map28
  have hnil2 := fun w r => run_eql_map_nil (P := Try.prog) w 28 9 9 (some r) Try.map28
  go_enter Try.func3, Try.ntmps3
  go_wp2_with (go_at_call 4; (with_reducible refine (bytes_zero a c k v _).mono ?_); rintro e w' ⟨⟨b0, rfl⟩, rfl⟩)
  · go_ret
    exact ⟨rfl, Below.refl _ _⟩
  · go_ret
    exact ⟨rfl, Below.refl _ _⟩
  go_loop [8] (fun i => i = .int .i64 0) (fun _ => 0)
  case atStart => rfl
  case round =>
    subst hrel
    go_wp2_with (first
      | (at_make; refine wpList_make_own _ rfl _ (.tmp 65) 26 rfl w.heap.size 9 i9 _ 1 Try.underlying26 i9i i9z i9s _ _ _ 1 rfl rfl rfl (by rw [i9b]; decide) (by unfold maxLen; decide) (Nat.le_refl _) ?_; intro w1 hown1 hgrow1)
      | (at_make; refine wpList_make_own _ rfl _ (.tmp 69) 26 rfl w.heap.size 9 i9 _ 1 Try.underlying26 i9i i9z i9s _ _ _ 1 rfl rfl rfl (by rw [i9b]; decide) (by unfold maxLen; decide) hgrow1.size ?_; intro w2 hown2 hgrow2))
    have hz1 : w.heap.size < w1.heap.size := (hown1.lt _ rfl).2
    have hB2 : Below w.heap.size w w2 := ((Below.refl _ _).grown hgrow1 (Nat.le_refl _) (fun k h => by cases h)).grown hgrow2 hgrow1.size (fun k h => by cases h)
    have hR2 : Rws w2 w.heap.size w.heap.size w1.heap.size 1 [] := ⟨hown1.kept hgrow2 (.inr (by simp [Value.ownBlock])), hown2, by omega⟩
    clear hown1 hgrow1 hown2 hgrow2
    generalize w1.heap.size = gv at *
    go_wp2
    go_loop [9, 10, 11] (fun sk sv i => sk = .slice (some ⟨w.heap.size, 0, none⟩) 0 1 ∧ sv = .slice (some ⟨gv, 0, none⟩) 0 1 ∧ i = .int .i64 0) (fun _ _ _ => 0)
    case atStart => exact ⟨rfl, rfl, rfl⟩
    case round =>
      obtain ⟨rfl, rfl, rfl⟩ := hrel
      go_wp2
      go_loop [13, 14] (fun sm i => sm = .map none ∧ i = .int .i64 0) (fun _ _ => 0)
      case atStart => exact ⟨rfl, rfl⟩
      case round =>
        obtain ⟨rfl, rfl⟩ := hrel
        have hgk := (hR2.kr.lt _ rfl).2
        have hgv := (hR2.vr.lt _ rfl).2
        have hgvB := (hR2.vr.lt _ rfl).1
        have gkm : w.heap.size ≠ w2.heap.size := Nat.ne_of_lt hgk
        have gvm : gv ≠ w2.heap.size := Nat.ne_of_lt hgv
        go_wp2_with (first
          | (go_at_call 6; (with_reducible refine (zzwith_nil k v _).mono ?_); rintro e wb ⟨rfl, hmb, hbb⟩; have hRb := hR2.later hbb; have hbw : Below w.heap.size w wb := hB2.trans (hbb.mono hB2.size); clear hR2 hB2 hbb; have hfind : Calls Try.prog 5 #[.slice (some ⟨w.heap.size, 0, none⟩) 0 1, .string k] wb (fun e w' => e = .returned (.int .i64 (-1)) ∧ wb = w') := find_none w.heap.size 1 [] k rfl (by decide) wb hRb.cells)
          | (go_at_call 5; (with_reducible refine hfind.mono ?_); rintro e wc ⟨rfl, rfl⟩)
          | (at_builtin; refine wpList_append_fits _ rfl (.tmp 149) (.tmp 151) 26 rfl w.heap.size 9 i9 1 Try.underlying26 i9i i9s w.heap.size 0 1 _ rfl (hRb.kr.alloc _) ⟨wb.heap.size, 0, none⟩ 1 1 [.string k] rfl rfl (cell_one_new _ _ _) (by intro u hu; simp at hu; subst hu; rfl) (by decide) ?_; intro w1 hown1 hgrow1; have hbel1 : Below w.heap.size w w1 := (hbw.alloc hbw.size _).grown hgrow1 (by have := hbw.size; simp; omega) (fun k h => by cases h; exact Nat.le_refl _); have hvr1 : w1.ownsRow w.heap.size 9 1 (.slice (some ⟨gv, 0, none⟩) 0 1) 0 (vs []) := (hRb.vr.alloc _).kept hgrow1 (.inr (fun e => hRb.ne (Option.some.inj e).symm)); have hm1 := (hmb.alloc _).grown hgrow1 gkm)
          | (at_builtin; refine wpList_append_fits _ rfl (.tmp 153) (.tmp 155) 26 rfl w.heap.size 9 i9 1 Try.underlying26 i9i i9s gv 0 1 _ rfl (hvr1.alloc _) ⟨w1.heap.size, 0, none⟩ 1 1 [.string v] rfl rfl (cell_one_new _ _ _) (by intro u hu; simp at hu; subst hu; rfl) (by decide) ?_; intro w3 hown2 hgrow2; have hRc : Rws w3 w.heap.size w.heap.size gv 1 [(k, v)] := hRb.app (k := k) (v := v) rfl _ hown1 hown2 hgrow2; have hmc := (hm1.alloc _).grown hgrow2 gvm; have hbc : Below w.heap.size w w3 := (hbel1.alloc hbel1.size _).grown hgrow2 (by have := hbel1.size; simp; omega) (fun k h => by cases h; exact hgvB); have hlenm := fun ty => run_mlen hmc ty; clear hown1 hown2 hgrow1 hgrow2 hvr1 hm1))
        go_loop [18] (fun i => ∃ j : Nat, j ≤ 1 ∧ i = .int .i64 j) (fun i => 1 - (intOf i).toNat)
        case atStart => exact ⟨0, Nat.zero_le _, rfl⟩
        case round =>
          obtain ⟨j, hj, rfl⟩ := hrel
          by_cases hlt : j < 1
          · obtain rfl : j = 0 := by omega
            have ck := hRc.kcell (t := 0) (p := (k, v)) rfl
            have cv := hRc.vcell (t := 0) (p := (k, v)) rfl
            have hget := run_get hmc (Once.nil.put k v) 0 k v rfl
            go_wp2
            go_round
            case rel => exact ⟨1, by omega, rfl⟩
            case measure => simp [intOf]
          · obtain rfl : j = 1 := by omega
            go_wp2
            go_ret
            exact ⟨rfl, hbc⟩

end Go.Proofs.Qxb6617611a
