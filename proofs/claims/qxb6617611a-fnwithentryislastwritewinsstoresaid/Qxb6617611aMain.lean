import Derived.Test.Qxb6617611aCalls
import Derived.Deep.DeepCutAuto
import Derived.Deep.RegionWith
namespace Go.Proofs.Qxb6617611a
open Go.RowKit
set_option linter.unusedVariables false

theorem Try.info9 : (Try.prog.info? 9).map (fun i => (i.zero, i.size, i.bytes)) = some (some (.string ByteArray.empty), 1, 16) := by kernel_rfl

theorem find_some (g c : Nat) (l : List (ByteArray × ByteArray)) (k : ByteArray) (j : Nat) (hj : fidx k l = some j) (hl : l.length ≤ 4097) (w : World) (hc : ∀ t, t < l.length → w.cell? ⟨g, t, none⟩ = (ks l)[t]?) :
    Calls Try.prog 5 #[.slice (some ⟨g, 0, none⟩) l.length c, .string k] w fun e w' => e = .returned (.int .i64 j) ∧ w = w' := by
  have := find_any g c l k hl w hc
  rwa [show fint k l = (j : Int) by unfold fint; rw [hj]] at this
theorem find_none (g c : Nat) (l : List (ByteArray × ByteArray)) (k : ByteArray) (hj : fidx k l = none) (hl : l.length ≤ 4097) (w : World) (hc : ∀ t, t < l.length → w.cell? ⟨g, t, none⟩ = (ks l)[t]?) :
    Calls Try.prog 5 #[.slice (some ⟨g, 0, none⟩) l.length c, .string k] w fun e w' => e = .returned (.int .i64 (-1)) ∧ w = w' := by
  have := find_any g c l k hl w hc
  rwa [show fint k l = -1 by unfold fint; rw [hj]] at this

/-- The two rows of the law's own model: keys at block gk, values at block gv. -/
structure Rws (w : World) (base gk gv cap : Nat) (l : List (ByteArray × ByteArray)) : Prop where
  kr : w.ownsRow base 9 1 (.slice (some ⟨gk, 0, none⟩) l.length cap) l.length (ks l)
  vr : w.ownsRow base 9 1 (.slice (some ⟨gv, 0, none⟩) l.length cap) l.length (vs l)
  ne : gk ≠ gv

theorem Rws.set {w : World} {base gk gv cap : Nat} {l : List (ByteArray × ByteArray)} (h : Rws w base gk gv cap l) {k v : ByteArray} {j : Nat} (hj : fidx k l = some j) :
    Rws (w.setCell ⟨gv, j, none⟩ (.string v)) base gk gv cap (put k v l) := by
  obtain ⟨h1, h2⟩ := h.vr.stored j (.string v)
  rw [put_some hj]
  refine ⟨?_, ?_, h.ne⟩
  · rw [ks_set hj, List.length_set]
    exact h.kr.kept h2 (.inr (fun e => h.ne (Option.some.inj e)))
  · rw [vs_set, List.length_set]; exact h1

theorem Rws.app {w w1 w2 : World} {base gk gv cap : Nat} {l : List (ByteArray × ByteArray)} (h : Rws w base gk gv cap l) {k v : ByteArray} (hj : fidx k l = none) (o2 : Obj)
    (h1 : w1.ownsRow base 9 1 (.slice (some ⟨gk, 0, none⟩) (l.length + 1) cap) (l.length + 1) (ks l ++ [.string k]))
    (h2 : w2.ownsRow base 9 1 (.slice (some ⟨gv, 0, none⟩) (l.length + 1) cap) (l.length + 1) (vs l ++ [.string v])) (g2 : (w1.alloc o2).grownBy w2 (some gv)) :
    Rws w2 base gk gv cap (put k v l) := by
  have e1 : (put k v l).length = l.length + 1 := by rw [put_none hj]; simp
  have e2 : ks (put k v l) = ks l ++ [.string k] := by rw [put_none hj]; simp [ks]
  have e3 : vs (put k v l) = vs l ++ [.string v] := by rw [put_none hj]; simp [vs]
  refine ⟨?_, ?_, h.ne⟩
  · rw [e1, e2]
    exact (h1.alloc o2).kept g2 (.inr (fun e => h.ne (Option.some.inj e)))
  · rw [e1, e3]; exact h2

theorem Rws.cells {w : World} {base gk gv cap : Nat} {l : List (ByteArray × ByteArray)} (h : Rws w base gk gv cap l) : ∀ t, t < l.length → w.cell? ⟨gk, t, none⟩ = (ks l)[t]? :=
  fun t ht => h.kr.cellAt t (by omega)

theorem Rws.vcell {w : World} {base gk gv cap : Nat} {l : List (ByteArray × ByteArray)} (h : Rws w base gk gv cap l) {t : Nat} {p : ByteArray × ByteArray} (ht : l[t]? = some p) : w.cell? ⟨gv, t, none⟩ = some (.string p.2) := by
  have hlt : t < l.length := (List.getElem?_eq_some_iff.1 ht).1
  rw [h.vr.cellAt t (by omega)]; simp [vs, ht]
theorem Rws.kcell {w : World} {base gk gv cap : Nat} {l : List (ByteArray × ByteArray)} (h : Rws w base gk gv cap l) {t : Nat} {p : ByteArray × ByteArray} (ht : l[t]? = some p) : w.cell? ⟨gk, t, none⟩ = some (.string p.1) := by
  have hlt : t < l.length := (List.getElem?_eq_some_iff.1 ht).1
  rw [h.kr.cellAt t (by omega)]; simp [ks, ht]

theorem Rws.later {w w' : World} {base gk gv cap : Nat} {l : List (ByteArray × ByteArray)} (h : Rws w base gk gv cap l) (hb : Below w.heap.size w w') : Rws w' base gk gv cap l := by
  have hg : w.grownBy w' none := ⟨hb.os, hb.tape, hb.output, hb.size, fun k hk _ => hb.block k hk⟩
  exact ⟨h.kr.kept hg (.inr (by simp [Value.ownBlock])), h.vr.kept hg (.inr (by simp [Value.ownBlock])), h.ne⟩

theorem Rws.other {w w' : World} {base gk gv gm cap : Nat} {l : List (ByteArray × ByteArray)} (h : Rws w base gk gv cap l) (hg : w.grownBy w' (some gm)) (h1 : gk ≠ gm) (h2 : gv ≠ gm) : Rws w' base gk gv cap l :=
  ⟨h.kr.kept hg (.inr (fun e => h1 (Option.some.inj e))), h.vr.kept hg (.inr (fun e => h2 (Option.some.inj e))), h.ne⟩

theorem MapIs.alloc {w : World} {gm : Nat} {l : List (ByteArray × ByteArray)} (h : MapIs w gm l) (o : Obj) : MapIs (w.alloc o) gm l := h.same (Below.heap_alloc _ _ _ h.lt)
theorem MapIs.grown {w w' : World} {gm g : Nat} {l : List (ByteArray × ByteArray)} (h : MapIs w gm l) (hg : w.grownBy w' (some g)) (hne : g ≠ gm) : MapIs w' gm l :=
  h.same (hg.block gm h.lt (fun e => hne (Option.some.inj e).symm))
theorem MapIs.setCell {w : World} {gm g j : Nat} {l : List (ByteArray × ByteArray)} (h : MapIs w gm l) (hne : g ≠ gm) (v : Value) : MapIs (w.setCell ⟨g, j, none⟩ v) gm l :=
  h.same (Below.heap_setCell _ _ _ _ (fun e => hne e.symm))

/-- The project's map behind i writes: nil, or a map of the call's own whose entries are those of the model. -/
def MapSt (B : Nat) (w : World) (K V : Nat → ByteArray) (i : Nat) (sm : Value) : Prop :=
  (i = 0 ∧ sm = .map none) ∨ (0 < i ∧ ∃ gm, sm = .map (some gm) ∧ B ≤ gm ∧ MapIs w gm (upto K V i))

theorem mapst_nil {wa wr w' : World} {K V : Nat → ByteArray} {i : Nat} (hbx : Below wa.heap.size wa wr) (hi : i = 0) (hm : MapIs w' wr.heap.size [(K i, V i)]) : MapSt wa.heap.size w' K V (i + 1) (.map (some wr.heap.size)) := by
  refine .inr ⟨Nat.succ_pos i, _, rfl, hbx.size, ?_⟩
  rw [upto_succ]
  subst hi
  exact hm
theorem mapst_some {B : Nat} {w' : World} {K V : Nat → ByteArray} {i gm : Nat} (hgm : B ≤ gm) (hm : MapIs w' gm (put (K i) (V i) (upto K V i))) : MapSt B w' K V (i + 1) (.map (some gm)) := by
  refine .inr ⟨Nat.succ_pos i, _, rfl, hgm, ?_⟩
  rw [upto_succ]
  exact hm

set_option maxRecDepth 1000000 in
set_option maxHeartbeats 2000000 in
theorem main_pos (b off c n : Nat) (K V : Nat → ByteArray) (k v : ByteArray) (h0n : 0 < n) (hnm : n ≤ maxLen) (w : World) (hb : b < w.heap.size)
    (hK : ∀ t, t < n → w.cell? ⟨b, off + t * 2, none⟩ = some (.string (K t))) (hV : ∀ t, t < n → w.cell? ⟨b, off + t * 2 + 1, none⟩ = some (.string (V t))) :
    Calls Try.prog 3 #[.slice (some ⟨b, off, none⟩) n c, .string k, .string v] w fun e w' => e = .returned (.bool true) ∧ Below w.heap.size w w' := by
  obtain ⟨i9, i9i, i9z, i9s, i9b⟩ := info_parts Try.info9
  have hby := bytes_any b off n c K V k v hnm w hK hV
  unfold maxLen at hnm
  go_enter Try.func3, Try.ntmps3
  go_wp2_with (go_at_call 4; (with_reducible refine hby.mono ?_); rintro e w' ⟨⟨b0, rfl⟩, rfl⟩)
  · go_ret
    exact ⟨rfl, Below.refl _ _⟩
  · go_ret
    exact ⟨rfl, Below.refl _ _⟩
  · go_ret
    exact ⟨rfl, Below.refl _ _⟩
  have hn4 : n ≤ 4096 := by
    have : (n : Int) ≤ 4096 := by assumption
    omega
  go_loopw [7, 8] (fun z i wr => ∃ (j : Nat) (s : Int), j ≤ n ∧ i = .int .i64 j ∧ z = .int .i64 s ∧ Below w.heap.size w wr) (fun _ i _ => n - (intOf i).toNat)
  case atStart => exact ⟨0, _, Nat.zero_le _, rfl, rfl, Below.refl _ _⟩
  case round =>
    obtain ⟨j, s, hj, rfl, rfl, hbel⟩ := hrel
    by_cases hlt : j < n
    · have c1 : wr.cell? ⟨b, off + j * 2, none⟩ = some (.string (K j)) := (hbel.cell (by exact hb)).trans (hK j hlt)
      have c2 : wr.cell? ⟨b, off + j * 2 + 1, none⟩ = some (.string (V j)) := (hbel.cell (by exact hb)).trans (hV j hlt)
      have jn : (j : Int) < (n : Int) := by omega
      go_wp2
      go_quiet (fail)
      go_wp2
      · go_ret
        exact ⟨rfl, below_drewN hbel _⟩
      · go_roundw
        case rel => exact ⟨j + 1, _, by omega, by go_num, rfl, below_drewN hbel _⟩
        case measure => simp [intOf]; omega
    · have hB0 : w.heap.size ≤ wr.heap.size := hbel.size
      go_wp2_with (first
        | (at_make; refine wpList_make_own _ rfl _ (.tmp 65) 26 rfl w.heap.size 9 i9 _ 1 Try.underlying26 i9i i9z i9s _ _ _ (n + 1) rfl rfl (by omega) (by rw [i9b]; omega) (by unfold maxLen; omega) hB0 ?_; intro w1 hown1 hgrow1)
        | (at_make; refine wpList_make_own _ rfl _ (.tmp 69) 26 rfl w.heap.size 9 i9 _ 1 Try.underlying26 i9i i9z i9s _ _ _ (n + 1) rfl rfl (by omega) (by rw [i9b]; omega) (by unfold maxLen; omega) (Nat.le_trans hB0 hgrow1.size) ?_; intro w2 hown2 hgrow2))
      have hz1 : wr.heap.size < w1.heap.size := (hown1.lt _ rfl).2
      have hB2 : Below w.heap.size w w2 := (hbel.grown hgrow1 hB0 (fun k h => by cases h)).grown hgrow2 (Nat.le_trans hB0 hgrow1.size) (fun k h => by cases h)
      have hR2 : Rws w2 w.heap.size wr.heap.size w1.heap.size (n + 1) [] := ⟨hown1.kept hgrow2 (.inr (by simp [Value.ownBlock])), hown2, by omega⟩
      clear hown1 hgrow1 hown2 hgrow2 hbel
      generalize wr.heap.size = gk at *
      generalize w1.heap.size = gv at *
      go_wp2
      go_loopw [9, 10, 11] (fun sk sv si wr => ∃ (i : Nat) (l : List (ByteArray × ByteArray)), i ≤ n ∧ l.length ≤ i ∧ si = .int .i64 i ∧ sk = .slice (some ⟨gk, 0, none⟩) l.length (n + 1) ∧ sv = .slice (some ⟨gv, 0, none⟩) l.length (n + 1) ∧
          Hid (l = upto K V i) ∧ Rws wr w.heap.size gk gv (n + 1) l ∧ Below w.heap.size w wr) (fun _ _ si _ => n - (intOf si).toNat)
      case atStart => exact ⟨0, [], Nat.zero_le _, Nat.le_refl _, rfl, rfl, rfl, rfl, hR2, hB2⟩
      case round =>
        obtain ⟨i, l, hi, hli, rfl, rfl, rfl, HL, hR, hbel⟩ := hrel
        clear hR2 hB2
        by_cases hlt : i < n
        · have c1 : wr.cell? ⟨b, off + i * 2, none⟩ = some (.string (K i)) := (hbel.cell (by exact hb)).trans (hK i hlt)
          have c2 : wr.cell? ⟨b, off + i * 2 + 1, none⟩ = some (.string (V i)) := (hbel.cell (by exact hb)).trans (hV i hlt)
          cases hf : fidx (K i) l with
          | some j =>
            obtain ⟨x, hx, hjl⟩ := fidx_some hf
            have c3 : wr.cell? ⟨gv, j, none⟩ = some (.string x) := hR.vcell hx
            have f3 := hR.vr.frozenAt j
            have HF : Hid (fidx (K i) l = some j) := hf
            have hfind := find_some gk (n + 1) l (K i) j hf (by omega) wr hR.cells
            clear hx hf
            go_wp2_with (go_at_call 5; (with_reducible refine hfind.mono ?_); rintro e w' ⟨rfl, rfl⟩)
            go_roundw
            case rel => exact ⟨i + 1, put (K i) (V i) l, by omega, by have := (put_length (K i) (V i) l).2; omega, by go_num, by rw [put_some HF.out, List.length_set], by rw [put_some HF.out, List.length_set], (by rw [upto_succ, ← HL.out] : _ = _), hR.set HF.out, hbel.setCell (by exact (hR.vr.lt _ rfl).1) _⟩
            case measure => simp [intOf]; omega
          | none =>
            have HF : Hid (fidx (K i) l = none) := hf
            have hfind := find_none gk (n + 1) l (K i) hf (by omega) wr hR.cells
            clear hf
            have hgk := (hR.kr.lt _ rfl).1
            have hgv := (hR.vr.lt _ rfl).1
            go_wp2_with (first
              | (go_at_call 5; (with_reducible refine hfind.mono ?_); rintro e w' ⟨rfl, rfl⟩)
              | (at_builtin; refine wpList_append_fits _ rfl (.tmp 94) (.tmp 100) 26 rfl w.heap.size 9 i9 1 Try.underlying26 i9i i9s gk l.length (n + 1) _ rfl (hR.kr.alloc _) ⟨wr.heap.size, 0, none⟩ 1 1 [.string (K i)] rfl rfl (cell_one_new _ _ _) (by intro u hu; simp at hu; subst hu; rfl) (by omega) ?_; intro w1 hown1 hgrow1; have hbel1 : Below w.heap.size w w1 := (hbel.alloc hbel.size _).grown hgrow1 (by have := hbel.size; simp; omega) (fun k h => by cases h; exact hgk); have c2' : w1.cell? ⟨b, off + i * 2 + 1, none⟩ = some (.string (V i)) := (hbel1.cell (by exact hb)).trans (hV i hlt); have hvr1 : w1.ownsRow w.heap.size 9 1 (.slice (some ⟨gv, 0, none⟩) l.length (n + 1)) l.length (vs l) := (hR.vr.alloc _).kept hgrow1 (.inr (fun e => hR.ne (Option.some.inj e).symm)))
              | (at_builtin; refine wpList_append_fits _ rfl (.tmp 102) (.tmp 108) 26 rfl w.heap.size 9 i9 1 Try.underlying26 i9i i9s gv l.length (n + 1) _ rfl (hvr1.alloc _) ⟨w1.heap.size, 0, none⟩ 1 1 [.string (V i)] rfl rfl (cell_one_new _ _ _) (by intro u hu; simp at hu; subst hu; rfl) (by omega) ?_; intro w2 hown2 hgrow2))
            go_roundw
            case rel => exact ⟨i + 1, put (K i) (V i) l, by omega, by have := (put_length (K i) (V i) l).2; omega, by go_num, by rw [put_none HF.out, List.length_append]; rfl, by rw [put_none HF.out, List.length_append]; rfl, (by rw [upto_succ, ← HL.out] : _ = _), hR.app HF.out _ hown1 hown2 hgrow2, (hbel1.alloc hbel1.size _).grown hgrow2 (by have := hbel1.size; simp; omega) (fun k h => by cases h; exact hgv)⟩
            case measure => simp [intOf]; omega
        · obtain rfl : n = i := by omega
          go_wp2
          generalize wr = wa at *
          have hbw : w.heap.size ≤ wa.heap.size := hbel.size
          go_loopw [13, 14] (fun sm si wx => ∃ i : Nat, i ≤ n ∧ si = .int .i64 i ∧ MapSt wa.heap.size wx K V i sm ∧ Below wa.heap.size wa wx) (fun _ si _ => n - (intOf si).toNat)
          case atStart => exact ⟨0, Nat.zero_le _, rfl, .inl ⟨rfl, rfl⟩, Below.refl _ _⟩
          case round =>
            obtain ⟨i, hi, rfl, hst, hbx⟩ := hrel
            by_cases hlt : i < n
            · have c1 : wr.cell? ⟨b, off + i * 2, none⟩ = some (.string (K i)) := (hbx.cell (by exact (by omega : b < wa.heap.size))).trans ((hbel.cell (by exact hb)).trans (hK i hlt))
              have c2 : wr.cell? ⟨b, off + i * 2 + 1, none⟩ = some (.string (V i)) := (hbx.cell (by exact (by omega : b < wa.heap.size))).trans ((hbel.cell (by exact hb)).trans (hV i hlt))
              have jn : (i : Int) < (n : Int) := by omega
              rcases hst with ⟨hi0, rfl⟩ | ⟨hi0, gm, rfl, hgm, hm⟩
              · have H0 : Hid (i = 0) := hi0
                clear hi0
                go_wp2
                go_region_with (go_at_call 6; (with_reducible refine (zzwith_nil (K i) (V i) _).mono ?_); rintro e w' ⟨rfl, hm1, hb1⟩)
                all_goals
                  go_wp2
                  go_roundw
                  case rel => exact ⟨i + 1, by omega, by go_num, mapst_nil hbx H0.out hm1, hbx.drew.trans (hb1.mono hbx.size)⟩
                  case measure => simp [intOf]; omega
              · go_wp2
                go_region_with (go_at_call 6; (with_reducible refine (zzwith_some gm (upto K V i) (K i) (V i) _ ?_).mono ?_); exact hm; rintro e w' ⟨rfl, hm1, hg1⟩)
                all_goals
                  go_wp2
                  go_roundw
                  case rel => exact ⟨i + 1, by omega, by go_num, mapst_some hgm hm1, hbx.drew.grown hg1 hbx.size (fun k h => by cases h; exact hgm)⟩
                  case measure => simp [intOf]; omega
            · obtain rfl : n = i := by omega
              rcases hst with ⟨hi0, _⟩ | ⟨_, gm, rfl, hgm, hm⟩
              · omega
              have hRx : Rws wr w.heap.size gk gv (n + 1) l := hR.later hbx
              have hbwx : Below w.heap.size w wr := hbel.trans (hbx.mono hbw)
              have hln : l.length ≤ n := hli
              have gkm : gk ≠ gm := Nat.ne_of_lt (Nat.lt_of_lt_of_le (hR.kr.lt _ rfl).2 hgm)
              have gvm : gv ≠ gm := Nat.ne_of_lt (Nat.lt_of_lt_of_le (hR.vr.lt _ rfl).2 hgm)
              have hgk := (hR.kr.lt _ rfl).1
              have hgv := (hR.vr.lt _ rfl).1
              have hgmB : w.heap.size ≤ gm := Nat.le_trans hbw hgm
              rw [← HL.out] at hm
              have HO : Hid (Once (put k v l)) := (HL.out ▸ (upto_once K V n).put k v : Once (put k v l))
              clear hR hbx hbel hK hV hby HL
              have hnil := fun w => run_eql_map_nil (P := Try.prog) w 28 9 9 (some gm) Try.map28
              have hn0 : ((n : Int) == 0) = false := by simp; omega
              go_upto_if 144 with (first
                | (go_at_call 6; (with_reducible refine (zzwith_some gm l k v _ hm).mono ?_); rintro e wb ⟨rfl, hmb, hgb⟩; have hRb := hRx.other hgb gkm gvm; have hbb : Below w.heap.size w wb := hbwx.grown hgb hbwx.size (fun k h => by cases h; exact hgmB); clear hRx hbwx hm hgb)
                | (go_at_call 5; (with_reducible refine (find_any gk (n + 1) l k (by omega) _ hRb.cells).mono ?_); rintro e wc ⟨rfl, rfl⟩))
              go_cut [9, 10, 17] (fun sk sv _ wc => sk = .slice (some ⟨gk, 0, none⟩) (put k v l).length (n + 1) ∧ sv = .slice (some ⟨gv, 0, none⟩) (put k v l).length (n + 1) ∧ Rws wc w.heap.size gk gv (n + 1) (put k v l) ∧ MapIs wc gm (put k v l) ∧ Below w.heap.size w wc)
              case first =>
                cases hf : fidx k l with
                | some j =>
                  obtain ⟨x, hx, hjl⟩ := fidx_some hf
                  have c3 : wb.cell? ⟨gv, j, none⟩ = some (.string x) := hRb.vcell hx
                  have f3 := hRb.vr.frozenAt j
                  have HF : Hid (fidx k l = some j) := hf
                  have hfi : fint k l = (j : Int) := by unfold fint; rw [hf]
                  clear hx hf
                  go_wp2
                  go_meet
                  case rel => exact ⟨by rw [put_some HF.out, List.length_set], by rw [put_some HF.out, List.length_set], hRb.set HF.out, hmb.setCell gvm _, hbb.setCell (by exact hgv) _⟩
                | none =>
                  have HF : Hid (fidx k l = none) := hf
                  have hfi : fint k l = -1 := by unfold fint; rw [hf]
                  clear hf
                  go_wp2_with (first
                    | (at_builtin; refine wpList_append_fits _ rfl (.tmp 149) (.tmp 151) 26 rfl w.heap.size 9 i9 1 Try.underlying26 i9i i9s gk l.length (n + 1) _ rfl (hRb.kr.alloc _) ⟨wb.heap.size, 0, none⟩ 1 1 [.string k] rfl rfl (cell_one_new _ _ _) (by intro u hu; simp at hu; subst hu; rfl) (by omega) ?_; intro w1 hown1 hgrow1; have hbel1 : Below w.heap.size w w1 := (hbb.alloc hbb.size _).grown hgrow1 (by have := hbb.size; simp; omega) (fun k h => by cases h; exact hgk); have hvr1 : w1.ownsRow w.heap.size 9 1 (.slice (some ⟨gv, 0, none⟩) l.length (n + 1)) l.length (vs l) := (hRb.vr.alloc _).kept hgrow1 (.inr (fun e => hRb.ne (Option.some.inj e).symm)); have hm1 := (hmb.alloc _).grown hgrow1 gkm)
                    | (at_builtin; refine wpList_append_fits _ rfl (.tmp 153) (.tmp 155) 26 rfl w.heap.size 9 i9 1 Try.underlying26 i9i i9s gv l.length (n + 1) _ rfl (hvr1.alloc _) ⟨w1.heap.size, 0, none⟩ 1 1 [.string v] rfl rfl (cell_one_new _ _ _) (by intro u hu; simp at hu; subst hu; rfl) (by omega) ?_; intro w2 hown2 hgrow2))
                  go_meet
                  case rel => exact ⟨by rw [put_none HF.out, List.length_append]; rfl, by rw [put_none HF.out, List.length_append]; rfl, hRb.app HF.out _ hown1 hown2 hgrow2, (hm1.alloc _).grown hgrow2 gvm, (hbel1.alloc hbel1.size _).grown hgrow2 (by have := hbel1.size; simp; omega) (fun k h => by cases h; exact hgv)⟩
              case rest =>
                clear hmb hRb hbb
                have hln2 := (put_length k v l).2
                generalize put k v l = l' at *
                obtain ⟨rfl, rfl, hRc, hmc, hbc⟩ := hcut
                have hlenm := fun ty => run_mlen hmc ty
                go_wp2
                go_loop [18] (fun i => ∃ j : Nat, j ≤ l'.length ∧ i = .int .i64 j) (fun i => l'.length - (intOf i).toNat)
                case atStart => exact ⟨0, Nat.zero_le _, rfl⟩
                case round =>
                  obtain ⟨j, hj, rfl⟩ := hrel
                  by_cases hlt : j < l'.length
                  · obtain ⟨p, hp⟩ : ∃ p, l'[j]? = some p := ⟨l'[j], by simp [hlt]⟩
                    have ck := hRc.kcell hp
                    have cv := hRc.vcell hp
                    have hget := run_get hmc HO.out j p.1 p.2 hp
                    clear hp
                    go_wp2
                    go_round
                    case rel => exact ⟨j + 1, by omega, by go_num⟩
                    case measure => simp [intOf]; omega
                  · go_wp2
                    go_loop [21] (fun i => ∃ j : Nat, j ≤ l'.length ∧ i = .int .i64 j) (fun i => l'.length - (intOf i).toNat)
                    case atStart => exact ⟨0, Nat.zero_le _, rfl⟩
                    case round =>
                      obtain ⟨j, hj, rfl⟩ := hrel
                      by_cases hlt : j < l'.length
                      · obtain ⟨p, hp⟩ : ∃ p, l'[j]? = some p := ⟨l'[j], by simp [hlt]⟩
                        have ck := hRc.kcell hp
                        have cv := hRc.vcell hp
                        have hget := run_get hmc HO.out j p.1 p.2 hp
                        clear hp
                        go_wp2
                        go_round
                        case rel => exact ⟨j + 1, by omega, by go_num⟩
                        case measure => simp [intOf]; omega
                      · go_wp2
                        go_ret
                        exact ⟨rfl, hbc⟩

end Go.Proofs.Qxb6617611a
