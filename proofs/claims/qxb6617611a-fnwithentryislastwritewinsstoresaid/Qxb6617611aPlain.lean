import Derived.Test.Qxb6617611aRows
import Derived.WalkKit
import Derived.WalkSpells
import Derived.WalkLawsBesides
import Derived.Deep.QuietTactic
import Derived.BigQuiet
namespace Go.Proofs.Qxb6617611a
open Go.RowKit
set_option linter.unusedVariables false

/-! ### The plain law: an association list, last write wins -/

/-- The place of the first entry with key k. -/
def fidx (k : ByteArray) : List (ByteArray × ByteArray) → Option Nat
  | [] => none
  | p :: r => if p.1 = k then some 0 else (fidx k r).map (· + 1)

/-- A write. -/
def put (k v : ByteArray) : List (ByteArray × ByteArray) → List (ByteArray × ByteArray)
  | [] => [(k, v)]
  | p :: r => if p.1 = k then (k, v) :: r else p :: put k v r

theorem fidx_some {k : ByteArray} {l : List (ByteArray × ByteArray)} {i : Nat} (h : fidx k l = some i) : ∃ x, l[i]? = some (k, x) ∧ i < l.length := by
  induction l generalizing i with
  | nil => simp [fidx] at h
  | cons p r ih =>
    unfold fidx at h
    by_cases e : p.1 = k
    · rw [if_pos e] at h
      obtain rfl := Option.some.inj h
      exact ⟨p.2, by simp [← e], by simp⟩
    · rw [if_neg e] at h
      obtain ⟨j, hj, rfl⟩ := Option.map_eq_some_iff.1 h
      obtain ⟨x, hx, hlt⟩ := ih hj
      exact ⟨x, by simpa using hx, by simpa using hlt⟩

theorem put_some {k v : ByteArray} {l : List (ByteArray × ByteArray)} {i : Nat} (h : fidx k l = some i) : put k v l = l.set i (k, v) := by
  induction l generalizing i with
  | nil => simp [fidx] at h
  | cons p r ih =>
    unfold fidx at h
    unfold put
    by_cases e : p.1 = k
    · rw [if_pos e] at h
      obtain rfl := Option.some.inj h
      rw [if_pos e]; rfl
    · rw [if_neg e] at h
      obtain ⟨j, hj, rfl⟩ := Option.map_eq_some_iff.1 h
      rw [if_neg e, ih hj]; rfl

theorem put_none {k v : ByteArray} {l : List (ByteArray × ByteArray)} (h : fidx k l = none) : put k v l = l ++ [(k, v)] := by
  induction l with
  | nil => rfl
  | cons p r ih =>
    unfold fidx at h
    unfold put
    by_cases e : p.1 = k
    · rw [if_pos e] at h; cases h
    · rw [if_neg e] at h
      rw [if_neg e, ih (by simpa using h)]; rfl

/-- No key twice: each place is the first with its key. -/
def Once (l : List (ByteArray × ByteArray)) : Prop := ∀ (i : Nat) (k x : ByteArray), l[i]? = some (k, x) → fidx k l = some i

theorem fidx_none {k : ByteArray} {l : List (ByteArray × ByteArray)} (h : fidx k l = none) (i : Nat) (x : ByteArray) : l[i]? ≠ some (k, x) := by
  induction l generalizing i with
  | nil => simp
  | cons p r ih =>
    unfold fidx at h
    by_cases e : p.1 = k
    · rw [if_pos e] at h; cases h
    · rw [if_neg e] at h
      cases i with
      | zero => intro hh; simp at hh; exact e (by rw [hh])
      | succ j => simpa using ih (by simpa using h) j

theorem fidx_app {k : ByteArray} {l m : List (ByteArray × ByteArray)} : fidx k (l ++ m) = match fidx k l with | some i => some i | none => (fidx k m).map (· + l.length) := by
  induction l with
  | nil => cases h : fidx k m <;> simp [fidx, h]
  | cons p r ih =>
    rw [List.cons_append]
    simp only [fidx]
    by_cases e : p.1 = k
    · simp [e]
    · simp only [e, if_false, ih]
      cases h : fidx k r with
      | some i => simp
      | none => cases h2 : fidx k m <;> simp [Nat.add_assoc]

theorem fidx_set {k k' v : ByteArray} {l : List (ByteArray × ByteArray)} {i : Nat} (h : fidx k l = some i) : fidx k' (l.set i (k, v)) = fidx k' l := by
  induction l generalizing i with
  | nil => rfl
  | cons p r ih =>
    unfold fidx at h
    by_cases e : p.1 = k
    · rw [if_pos e] at h
      obtain rfl := Option.some.inj h
      simp [fidx, e]
    · rw [if_neg e] at h
      obtain ⟨j, hj, rfl⟩ := Option.map_eq_some_iff.1 h
      simp [fidx, ih hj]

theorem Once.nil : Once [] := fun i k x h => by simp at h

theorem Once.put {l : List (ByteArray × ByteArray)} (h : Once l) (k v : ByteArray) : Once (put k v l) := by
  cases hf : fidx k l with
  | some j =>
    rw [put_some hf]
    intro i k' x hi
    rw [fidx_set hf]
    by_cases e : j = i
    · subst e
      rw [List.getElem?_set] at hi
      simp only [if_true] at hi
      split at hi
      · cases hi; exact hf
      · cases hi
    · rw [List.getElem?_set, if_neg e] at hi
      exact h i k' x hi
  | none =>
    rw [put_none hf]
    intro i k' x hi
    rw [fidx_app]
    by_cases e : i < l.length
    · rw [List.getElem?_append_left e] at hi
      rw [h i k' x hi]
    · rw [List.getElem?_append_right (by omega)] at hi
      have h0 : i - l.length = 0 := by
        rcases Nat.eq_zero_or_pos (i - l.length) with h0 | h0
        · exact h0
        · rw [List.getElem?_eq_none (by simp; omega)] at hi; cases hi
      rw [h0] at hi
      simp at hi
      obtain ⟨rfl, rfl⟩ := hi
      rw [hf]
      simp [fidx]; omega

theorem put_length (k v : ByteArray) (l : List (ByteArray × ByteArray)) : l.length ≤ (put k v l).length ∧ (put k v l).length ≤ l.length + 1 := by
  cases hf : fidx k l with
  | some j => rw [put_some hf]; simp
  | none => rw [put_none hf]; simp

theorem put_pos (k v : ByteArray) (l : List (ByteArray × ByteArray)) : 0 < (put k v l).length := by
  cases l with
  | nil => simp [put]
  | cons p r => simp only [put]; split <;> simp

/-- What a script of writes builds. -/
def bld : List (ByteArray × ByteArray) → List (ByteArray × ByteArray) → List (ByteArray × ByteArray)
  | l, [] => l
  | l, p :: r => bld (put p.1 p.2 l) r

theorem bld_snoc (l : List (ByteArray × ByteArray)) (r : List (ByteArray × ByteArray)) (p : ByteArray × ByteArray) : bld l (r ++ [p]) = put p.1 p.2 (bld l r) := by
  induction r generalizing l with
  | nil => rfl
  | cons q r ih => exact ih _

/-- What the first i writes of the script K, V build. -/
def upto (K V : Nat → ByteArray) (i : Nat) : List (ByteArray × ByteArray) := bld [] ((List.range i).map fun t => (K t, V t))

theorem upto_zero (K V : Nat → ByteArray) : upto K V 0 = [] := rfl
theorem upto_succ (K V : Nat → ByteArray) (i : Nat) : upto K V (i + 1) = put (K i) (V i) (upto K V i) := by
  unfold upto
  rw [List.range_succ, List.map_append]
  exact bld_snoc _ _ _
theorem upto_once (K V : Nat → ByteArray) (i : Nat) : Once (upto K V i) := by
  induction i with
  | zero => exact Once.nil
  | succ i ih => rw [upto_succ]; exact ih.put _ _
theorem upto_length (K V : Nat → ByteArray) (i : Nat) : (upto K V i).length ≤ i := by
  induction i with
  | zero => exact Nat.le_refl _
  | succ i ih => rw [upto_succ]; have := (put_length (K i) (V i) (upto K V i)).2; omega

/-! ### The two rows of an association list -/
def ks (l : List (ByteArray × ByteArray)) : List Value := l.map fun p => .string p.1
def vs (l : List (ByteArray × ByteArray)) : List Value := l.map fun p => .string p.2

theorem ks_set {k v : ByteArray} {l : List (ByteArray × ByteArray)} {i : Nat} (h : fidx k l = some i) : ks (l.set i (k, v)) = ks l := by
  obtain ⟨x, hx, hlt⟩ := fidx_some h
  unfold ks
  rw [List.map_set]
  apply List.ext_getElem?
  intro j
  rw [List.getElem?_set]
  by_cases e : i = j
  · subst e
    rw [if_pos rfl, List.length_map, if_pos hlt, List.getElem?_map, hx]
    rfl
  · rw [if_neg e]
theorem vs_set (k v : ByteArray) (l : List (ByteArray × ByteArray)) (i : Nat) : vs (l.set i (k, v)) = (vs l).set i (.string v) := by
  unfold vs; rw [List.map_set]
theorem ks_len (l : List (ByteArray × ByteArray)) : (ks l).length = l.length := by simp [ks]
theorem vs_len (l : List (ByteArray × ByteArray)) : (vs l).length = l.length := by simp [vs]

theorem beq_bytes (a b : ByteArray) : (a == b) = decide (a = b) := by
  cases a with
  | mk x => cases b with
    | mk y =>
      have : (ByteArray.mk x == ByteArray.mk y) = (x == y) := rfl
      rw [this]
      by_cases e : x = y
      · subst e; simp
      · have : ¬ ByteArray.mk x = ByteArray.mk y := fun h => e (by cases h; rfl)
        simp [e, this]

end Go.Proofs.Qxb6617611a
