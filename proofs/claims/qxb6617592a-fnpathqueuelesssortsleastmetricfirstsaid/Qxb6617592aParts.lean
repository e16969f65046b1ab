import Derived.Test.Qxb6617592aQueue
import Derived.Laws.CopyOwn
namespace Go.Proofs.Qxb6617592a
open Go.RowKit

/-! ### The plain law: an insertion sort of indices -/

/-- Index a stands before index b: a lesser metric, or the same metric and a lesser index. -/
def Bef (M : Nat → Int) (a b : Nat) : Prop := M a < M b ∨ (M a = M b ∧ a < b)

/-- At the outer loop's head. -/
def Outr (M : Nat → Int) (k : Nat) (p : Nat → Nat) : Prop :=
  (∀ t, t < k → p t < k) ∧ (∀ t, k ≤ t → p t = t) ∧ ∀ t, t + 1 < k → Bef M (p t) (p (t + 1))

/-- At the inner loop's head. -/
def Innr (M : Nat → Int) (k m : Nat) (p : Nat → Nat) : Prop :=
  m ≤ k ∧ p m = k ∧ (∀ t, t ≤ k → t ≠ m → p t < k) ∧ (∀ t, k < t → p t = t) ∧ (∀ t, t + 1 ≤ k → t + 1 ≠ m → Bef M (p t) (p (t + 1))) ∧ (0 < m → m + 1 ≤ k → Bef M (p (m - 1)) (p (m + 1)))

/-- The exchange of places m and m - 1. -/
def swp (p : Nat → Nat) (m : Nat) : Nat → Nat := fun t => if t = m - 1 then p m else if t = m then p (m - 1) else p t

theorem Outr.start (M : Nat → Int) : Outr M 1 (fun t => t) :=
  ⟨fun _ h => h, fun _ _ => rfl, fun _ h => by omega⟩

theorem Outr.enter {M : Nat → Int} {k : Nat} {p : Nat → Nat} (h : Outr M k p) : Innr M k k p := by
  obtain ⟨h1, h2, h3⟩ := h
  exact ⟨Nat.le_refl _, h2 k (Nat.le_refl _), fun t a b => h1 t (by omega), fun t a => h2 t (by omega), fun t a b => h3 t (by omega), fun a b => by omega⟩

theorem Innr.leave {M : Nat → Int} {k m : Nat} {p : Nat → Nat} (h : Innr M k m p) (hm : m = 0 ∨ ¬ M (p m) < M (p (m - 1))) : Outr M (k + 1) p := by
  obtain ⟨h1, h2, h3, h4, h5, _⟩ := h
  refine ⟨fun t ht => ?_, fun t ht => h4 t (by omega), fun t ht => ?_⟩
  · by_cases e : t = m
    · subst e; omega
    · have := h3 t (by omega) e; omega
  · by_cases e : t + 1 = m
    · rcases hm with hm | hm
      · omega
      · subst e
        have ht2 := h3 t (by omega) (by omega)
        have : t + 1 - 1 = t := by omega
        rw [this] at hm
        unfold Bef
        omega
    · exact h5 t (by omega) e

theorem Innr.swap {M : Nat → Int} {k m : Nat} {p : Nat → Nat} (h : Innr M k m p) (hm : 0 < m) (hl : M (p m) < M (p (m - 1))) : Innr M k (m - 1) (swp p m) := by
  obtain ⟨h1, h2, h3, h4, h5, h6⟩ := h
  have em : swp p m m = p (m - 1) := by unfold swp; rw [if_neg (by omega), if_pos rfl]
  have em1 : swp p m (m - 1) = p m := by unfold swp; rw [if_pos rfl]
  have eo : ∀ t, t ≠ m → t ≠ m - 1 → swp p m t = p t := fun t a b => by unfold swp; rw [if_neg b, if_neg a]
  refine ⟨by omega, by rw [em1]; exact h2, fun t a b => ?_, fun t a => ?_, fun t a b => ?_, fun a b => ?_⟩
  · by_cases e : t = m
    · subst e; rw [em]; exact h3 _ (by omega) (by omega)
    · rw [eo t e b]; exact h3 t a e
  · rw [eo t (by omega) (by omega)]; exact h4 t a
  · by_cases e : t + 1 = m
    · have e2 : t = m - 1 := by omega
      subst e2
      rw [e, em1, em]
      exact Or.inl hl
    · by_cases e3 : t = m
      · subst e3
        rw [em, eo (t + 1) (by omega) (by omega)]
        exact h6 hm a
      · rw [eo t (by omega) (by omega), eo (t + 1) (by omega) (by omega)]
        exact h5 t a e
  · have e1 : m - 1 + 1 = m := by omega
    rw [eo (m - 1 - 1) (by omega) (by omega), e1, em]
    have := h5 (m - 1 - 1) (by omega) (by omega)
    have e2 : m - 1 - 1 + 1 = m - 1 := by omega
    rwa [e2] at this

/-! ### The rows in memory -/

/-- Block g holds the n indices p. -/
def PRow (w : World) (g n : Nat) (p : Nat → Nat) : Prop :=
  (∀ t, t < n → w.cell? ⟨g, t, none⟩ = some (.int .i64 (p t : Int))) ∧ ∀ t, t < n → w.frozen? ⟨g, t, none⟩ = false

/-- Block g holds the n numbers M. -/
def MRow (w : World) (g n : Nat) (M : Nat → Int) : Prop := ∀ t, t < n → w.cell? ⟨g, t, none⟩ = some (.int .i64 (M t))

theorem PRow.drewN {w : World} {g n : Nat} {p : Nat → Nat} (h : PRow w g n p) (q : Nat) : PRow (w.drewN q) g n p := h

theorem PRow.set {w : World} {g n : Nat} {p : Nat → Nat} (h : PRow w g n p) (k : Nat) (hk : k < n) (v : Nat) : PRow (w.setCell ⟨g, k, none⟩ (.int .i64 (v : Int))) g n (fun t => if t = k then v else p t) := by
  refine ⟨fun t ht => ?_, fun t ht => by rw [World.frozen?_setCell]; exact h.2 t ht⟩
  by_cases e : t = k
  · subst e
    rw [World.cell?_setCell_same _ _ _ (h.1 t ht)]; simp
  · rw [World.cell?_setCell_other _ _ _ _ (addr_ne (fun x => e x.symm)), h.1 t ht]; simp [e]

theorem PRow.congr {w : World} {g n : Nat} {p q : Nat → Nat} (h : PRow w g n p) (e : ∀ t, t < n → p t = q t) : PRow w g n q :=
  ⟨fun t ht => by rw [← e t ht]; exact h.1 t ht, h.2⟩

theorem PRow.swap {w : World} {g n m : Nat} {p : Nat → Nat} (h : PRow w g n p) (h0 : 0 < m) (hm : m < n) :
    PRow ((w.setCell ⟨g, m, none⟩ (.int .i64 (p (m - 1) : Int))).setCell ⟨g, m - 1, none⟩ (.int .i64 (p m : Int))) g n (swp p m) :=
  (((h.set m hm _).set (m - 1) (by omega) _)).congr fun t _ => by unfold swp; rfl

theorem PRow.made {w : World} {base g n : Nat} (h : w.ownsRow base 3 1 (.slice (some ⟨g, 0, none⟩) n n) n (madeCells (Value.int .i64 0).cells (n * 1)).toList) : PRow w g n (fun _ => 0) := by
  refine ⟨fun t ht => ?_, fun t _ => h.frozenAt t⟩
  rw [h.cellAt t (by omega)]
  show (madeCells #[.int .i64 0] (n * 1)).toList[t]? = _
  rw [toList_madeCells_one]
  simp [ht]

theorem own_block {w : World} {base e g n : Nat} {xs : List Value} (h : w.ownsRow base e 1 (.slice (some ⟨g, 0, none⟩) n n) n xs) : ∃ cur : Array Value, w.heap[g]? = some (.cells cur e (0, 0)) ∧ cur.size = n := by
  rcases h.2 with ⟨h', _⟩ | ⟨g', cap', cur, h', _, hg, _, _, hs, _⟩
  · simp at h'
  · simp only [Value.slice.injEq, Option.some.injEq, Addr.mk.injEq, and_true, true_and] at h'
    obtain ⟨rfl, rfl⟩ := h'
    exact ⟨cur, hg, by omega⟩

/-- 'copy(zzc, xs)', zzc a row of the call's own, as long as xs. -/
theorem wpList_copy_whole {P : Program} {w : World} {ops : Array Oper} {rest : List Oper} {o : Oper} {a : Act} {Q : Exit → Act → World → Prop} (hgd : o.guard = none) (d s : Operand) (dT sT : TypeId)
    (ho : o.op = .call { callee := .builtin .copy, args := #[d, s], argTypes := #[dT, sT] }) (elem : TypeId) (hu : P.underlying dT = some (.slice elem)) (hsz : (P.info? elem).map (·.size) = some 1)
    (g n c b off cc : Nat) (hd : a.eval d = .slice (some ⟨g, 0, none⟩) n c) (hs : a.eval s = .slice (some ⟨b, off, none⟩) n cc)
    (cur : Array Value) (t : TypeId) (hg : w.heap[g]? = some (.cells cur t (0, 0))) (hcs : cur.size = n) (M : Nat → Int)
    (hsrc : ∀ j, j < n → w.cell? ⟨b, off + j, none⟩ = some (.int .i64 (M j)))
    (h : ∀ w', MRow w' g n M → Below g w w' → wpList P ops Q rest (a.put o.dst (goInt n)) w') :
    wpList P ops Q (o :: rest) a w := by
  have hlen : ((List.range n).map (fun j => Value.int .i64 (M j))).length = n := by simp
  have hn : ((List.range n).map (fun j => Value.int .i64 (M j))).length = Nat.min n n := by simp
  refine wpList_copy_own hgd d s dT sT ho elem hu hsz g 0 n c ⟨b, off, none⟩ n cc hd hs cur t hg ((List.range n).map (fun j => Value.int .i64 (M j))) hn ?_ (by rw [hlen]; omega) ?_ ?_
  · intro j v hv
    have hj : j < n := by
      have := (List.getElem?_eq_some_iff.1 hv).1
      simpa using this
    have e : ((List.range n).map (fun j => Value.int .i64 (M j)))[j]? = some (.int .i64 (M j)) := by simp [hj]
    rw [e] at hv
    rw [Addr.add_lit, hsrc j hj]
    exact hv
  · intro v hv
    obtain ⟨_, _, rfl⟩ := List.mem_map.1 hv
    rfl
  · rw [hlen]
    refine h _ ?_ (below_setRow (Below.refl _ _) (Nat.le_refl _) _)
    intro j hj
    rw [cell_of_row _ g j _ t (0, 0) (setRow_heap w g cur _ t _ hg)]
    have hd0 : cur.toList.drop (0 + n) = [] := by apply List.drop_eq_nil_of_le; simp [hcs]
    rw [hd0]
    simp [hj]

end Go.Proofs.Qxb6617592a
