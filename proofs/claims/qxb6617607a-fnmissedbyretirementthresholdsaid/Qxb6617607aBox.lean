import Derived.Test.Qxb6617607aCalls
import Derived.Deep.DeepCutAuto
namespace Go.Proofs.Qxb6617607a
open Go.RowKit
set_option linter.unusedVariables false

/-- THE CALL's OWN BOXES: w0: the world at the call's beginning; w: the world now; L: of each box its block and its cells. -/
structure St (w0 w : World) (L : List (Nat × Array Value)) : Prop where
  below : Below w0.heap.size w0 w
  know : ∀ (i g : Nat) (cs : Array Value), L[i]? = some (g, cs) → w0.heap.size ≤ g ∧ g < w.heap.size ∧ ∃ t, w.heap[g]? = some (.cells cs t (0, 0))
  apart : ∀ (i j g : Nat) (cs cs' : Array Value), L[i]? = some (g, cs) → L[j]? = some (g, cs') → i = j

theorem St.nil (w : World) : St w w [] := ⟨Below.refl _ _, fun i g cs h => by simp at h, fun i j g cs cs' h => by simp at h⟩

theorem St.call {w0 w w' : World} {L : List (Nat × Array Value)} (h : St w0 w L) (hb : Below w.heap.size w w') : St w0 w' L := by
  refine ⟨h.below.trans (hb.mono h.below.size), fun i g cs he => ?_, h.apart⟩
  obtain ⟨h1, h2, t, h3⟩ := h.know i g cs he
  exact ⟨h1, Nat.lt_of_lt_of_le h2 hb.size, t, by rw [hb.block _ h2]; exact h3⟩

theorem get_snoc {α : Type} {L : List α} {x y : α} {i : Nat} (h : (L ++ [x])[i]? = some y) : L[i]? = some y ∨ (i = L.length ∧ x = y) := by
  by_cases hi : i < L.length
  · rw [List.getElem?_append_left hi] at h; exact .inl h
  · rw [List.getElem?_append_right (by omega)] at h
    by_cases h0 : i - L.length = 0
    · rw [h0] at h; simp at h; exact .inr ⟨by omega, h⟩
    · rw [List.getElem?_eq_none (by simp; omega)] at h; cases h

theorem St.made {w0 w : World} {L : List (Nat × Array Value)} (h : St w0 w L) (cs : Array Value) (t : TypeId) : St w0 (w.alloc (.cells cs t)) (L ++ [(w.heap.size, cs)]) := by
  refine ⟨h.below.alloc h.below.size _, fun i g c he => ?_, fun i j g c c' hi hj => ?_⟩
  · rcases get_snoc he with he | ⟨_, he⟩
    · obtain ⟨h1, h2, t, h3⟩ := h.know i g c he
      exact ⟨h1, by simp; omega, t, by rw [Below.heap_alloc _ _ _ h2]; exact h3⟩
    · cases he
      exact ⟨h.below.size, by simp, t, heap_alloc_new _ _⟩
  · rcases get_snoc hi with hi | ⟨ei, hi⟩
    · rcases get_snoc hj with hj | ⟨ej, hj⟩
      · exact h.apart i j g c c' hi hj
      · cases hj
        have := (h.know i _ c hi).2.1
        omega
    · rcases get_snoc hj with hj | ⟨ej, hj⟩
      · cases hi
        have := (h.know j _ c' hj).2.1
        omega
      · omega

theorem St.put {w0 w w' : World} {L : List (Nat × Array Value)} (h : St w0 w L) (i : Nat) {g : Nat} {cs cs' : Array Value} (hi : L[i]? = some (g, cs))
    (hsz : w'.heap.size = w.heap.size) (ho : w'.os = w.os) (ht : w'.tape = w.tape) (hp : w'.output = w.output) (hg : ∀ t, w.heap[g]? = some (.cells cs t (0, 0)) → w'.heap[g]? = some (.cells cs' t (0, 0))) (hk : ∀ k, k ≠ g → w'.heap[k]? = w.heap[k]?) :
    St w0 w' (L.set i (g, cs')) := by
  obtain ⟨h1, h2, t, h3⟩ := h.know i g cs hi
  refine ⟨h.below.trans ⟨ho, ht, hp, by omega, fun k hk' => hk k (by omega)⟩, fun j g' c hj => ?_, fun j j' g' c c' hj hj' => ?_⟩
  · rw [List.getElem?_set] at hj
    by_cases e : i = j
    · subst e
      rw [if_pos rfl] at hj
      split at hj
      · cases hj
        exact ⟨h1, by omega, t, hg t h3⟩
      · cases hj
    · rw [if_neg e] at hj
      obtain ⟨k1, k2, t', k3⟩ := h.know j g' c hj
      have hne : g' ≠ g := fun e2 => by subst e2; exact e (h.apart i j g' cs c hi hj)
      exact ⟨k1, by omega, t', by rw [hk _ hne]; exact k3⟩
  · rw [List.getElem?_set] at hj hj'
    by_cases e : i = j
    · by_cases e' : i = j'
      · omega
      · rw [if_neg e'] at hj'
        rw [if_pos e] at hj
        split at hj
        · cases hj
          exact absurd (h.apart i j' g cs c' hi hj') e'
        · cases hj
    · by_cases e' : i = j'
      · rw [if_neg e] at hj
        rw [if_pos e'] at hj'
        split at hj'
        · cases hj'
          exact absurd (h.apart i j g cs c hi hj) e
        · cases hj'
      · rw [if_neg e] at hj
        rw [if_neg e'] at hj'
        exact h.apart j j' g' c c' hj hj'

section
variable {P : Program} {ops : Array Oper} {Q : Exit → Act → World → Prop} {a : Act} {w : World} {rest : List Oper} {o : Oper} {w0 : World} {L : List (Nat × Array Value)}

/-- 'box': a new box of an aggregate. -/
theorem law_box (hst : St w0 w L) (hw : Region.wanted o (yielded ops a.tmps) = true) (ty : TypeId) (x : Operand) (ho : o.op = .box ty x) (cs : Array Value) (hx : a.eval x = .agg cs)
    (h : ∀ g w', St w0 w' (L ++ [(g, cs)]) → wpList P ops Q rest (a.put o.dst (.pointer (some ⟨g, 0, none⟩))) w') : wpList P ops Q (o :: rest) a w :=
  BigFrame.wpList_want hw fun K hK => by
    unfold Oper.wp execOp
    simp only [ho, hx]
    exact hK _ _ (h _ _ (hst.made cs ty))

/-- 'alloc': a new box of zeros. -/
theorem law_alloc (hst : St w0 w L) (hw : Region.wanted o (yielded ops a.tmps) = true) (ty : TypeId) (ho : o.op = .alloc ty) (cs : Array Value) (i : TypeInfo) (hi : P.info? ty = some i) (hz : i.zero = some (.agg cs))
    (h : ∀ g w', St w0 w' (L ++ [(g, cs)]) → wpList P ops Q rest (a.put o.dst (.pointer (some ⟨g, 0, none⟩))) w') : wpList P ops Q (o :: rest) a w :=
  BigFrame.wpList_want hw fun K hK => by
    have hrun : (Instr.alloc ty true (.tuple #[])).run P w = .ok (.pointer (some ⟨w.heap.size, 0, none⟩)) (w.alloc (.cells cs ty)) := by
      simp [Instr.alloc, zeroValue, typeInfo, hi, hz, newVar, newRow, Value.cells]
    unfold Oper.wp execOp
    simp only [ho, Sem.run_bind, hrun, Result.andThen_ok]
    exact hK _ _ (h _ _ (hst.made cs ty))

/-- 'load' of a whole box. -/
theorem law_load (hst : St w0 w L) (n : Nat) (hw : Region.wanted o (yielded ops a.tmps) = true) (ty : TypeId) (x : Operand) (ho : o.op = .load ty x) (g : Nat) (cs : Array Value) (hn : L[n]? = some (g, cs))
    (hx : a.eval x = .pointer (some ⟨g, 0, none⟩)) (d : TypeDesc) (hu : P.underlying ty = some d) (hd : (match d with | .struct _ | .array _ _ => true | _ => false) = true) (hi : (P.info? ty).map (·.size) = some cs.size)
    (h : wpList P ops Q rest (a.put o.dst (.agg cs)) w) : wpList P ops Q (o :: rest) a w :=
  BigFrame.wpList_want hw fun K hK => by
    obtain ⟨_, _, t, hg⟩ := hst.know n g cs hn
    exact wp_load_row ty x ho g hx t cs (0, 0) d hg hu hd hi (hK _ _ h)

/-- 'store' of a whole box. -/
theorem law_store (hst : St w0 w L) (n : Nat) (hw : Region.wanted o (yielded ops a.tmps) = true) (ty : TypeId) (x y : Operand) (ho : o.op = .store ty x y) (hdn : o.dst = none) (g : Nat) (old cs : Array Value) (hn : L[n]? = some (g, old))
    (hx : a.eval x = .pointer (some ⟨g, 0, none⟩)) (hy : a.eval y = .agg cs) (hi : (P.info? ty).map (·.size) = some cs.size) (hs : old.size = cs.size) (h1 : cs.all (·.oneCell') = true)
    (h : ∀ w', St w0 w' (L.set n (g, cs)) → wpList P ops Q rest a w') : wpList P ops Q (o :: rest) a w :=
  BigFrame.wpList_want hw fun K hK => by
    have hput : a.put o.dst undef = a := by rw [hdn]; rfl
    obtain ⟨_, _, t, hg⟩ := hst.know n g old hn
    refine wp_store_row ty x y ho g cs hx hy t old hg hi hs h1 (by rw [hput]; exact hK _ _ (h _ (hst.put n hn (by simp [World.setRow]) rfl rfl rfl (fun t ht => setRow_heap _ _ _ _ _ _ ht) (fun k hk => setRow_other _ _ _ _ hk))))

/-- 'load' of one cell of a box. -/
theorem law_load1 (hst : St w0 w L) (n : Nat) (hw : Region.wanted o (yielded ops a.tmps) = true) (ty : TypeId) (x : Operand) (ho : o.op = .load ty x) (g k : Nat) (cs : Array Value) (hn : L[n]? = some (g, cs))
    (hx : a.eval x = .pointer (some ⟨g, k, none⟩)) (v : Value) (hv : cs[k]? = some v) (d : TypeDesc) (hu : P.underlying ty = some d) (hd : (match d with | .struct _ | .array _ _ => true | _ => false) = false)
    (h : wpList P ops Q rest (a.put o.dst v) w) : wpList P ops Q (o :: rest) a w :=
  BigFrame.wpList_want hw fun K hK => by
    obtain ⟨_, _, t, hg⟩ := hst.know n g cs hn
    have hc : w.cell? ⟨g, k, none⟩ = some v := by rw [cell_of_row w g k cs t (0, 0) hg]; exact hv
    have hagg : (isAgg ty).run P w = .ok false w := by
      unfold isAgg
      rw [Sem.run_bind, run_underlying hu w]
      cases d <;> simp_all
    have hrun : (Instr.loadAt ty (.pointer (some ⟨g, k, none⟩))).run P w = .ok v w := by
      simp [Instr.loadAt, Instr.sureAddr, loadVar, Sem.run_bind, hagg, hc]
    unfold Oper.wp execOp
    simp only [ho, hx, Sem.run_bind, hrun, Result.andThen_ok]
    exact hK _ _ h

/-- 'store' of one cell of a box. -/
theorem law_store1 (hst : St w0 w L) (n : Nat) (hw : Region.wanted o (yielded ops a.tmps) = true) (ty : TypeId) (x y : Operand) (ho : o.op = .store ty x y) (hdn : o.dst = none) (g k : Nat) (cs cs' : Array Value) (hn : L[n]? = some (g, cs))
    (hx : a.eval x = .pointer (some ⟨g, k, none⟩)) (v : Value) (hy : a.eval y = v) (hvc : v.cells = #[v]) (hv1 : v.oneCell' = true) (hk : k < cs.size) (hcs : cs.setIfInBounds k v = cs') (hi : (P.info? ty).map (·.size) = some 1)
    (h : ∀ w', St w0 w' (L.set n (g, cs')) → wpList P ops Q rest a w') : wpList P ops Q (o :: rest) a w :=
  BigFrame.wpList_want hw fun K hK => by
    have hput : a.put o.dst undef = a := by rw [hdn]; rfl
    subst hcs
    obtain ⟨_, _, t, hg⟩ := hst.know n g cs hn
    have hc : w.cell? ⟨g, k, none⟩ = some cs[k] := by rw [cell_of_row w g k cs t (0, 0) hg]; simp [hk]
    have hf := frozen_of_row w g k cs t hg
    cases hq : P.info? ty with
    | none => simp [hq] at hi
    | some i =>
      have hs : i.size = 1 := by simpa [hq] using hi
      have hrun : (Instr.storeAt ty (.pointer (some ⟨g, k, none⟩)) v).run P w = .ok () (w.setCell ⟨g, k, none⟩ v) := by
        simp [Instr.storeAt, Instr.sureAddr, storeVar, sizeOf, typeInfo, hq, hs, hvc, storeCells, run_store P w _ v _ hv1, hc, hf, Addr.add]
      unfold Oper.wp execOp
      simp only [ho, hx, hy, Sem.run_bind, hrun, Result.andThen_ok]
      show K (a.put o.dst undef) _
      rw [hput]
      refine hK _ _ (h _ (hst.put n hn (by simp) rfl rfl rfl (fun t ht => ?_) (fun k' hk' => heap_setCell_other _ _ _ _ hk')))
      exact heap_setCell_same w g k cs t v ht
end

end Go.Proofs.Qxb6617607a
