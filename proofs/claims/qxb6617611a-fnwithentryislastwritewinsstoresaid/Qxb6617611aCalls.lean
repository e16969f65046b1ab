import Derived.Test.Qxb6617611aMap
namespace Go.Proofs.Qxb6617611a
open Go.RowKit
set_option linter.unusedVariables false

/-- withEntry on a nil map. -/
theorem with_nil (k v : ByteArray) (w : World) :
    Calls Try.prog 7 #[.map none, .string k, .string v] w fun e w' => e = .returned (.map (some w.heap.size)) ∧ MapIs w' w.heap.size [(k, v)] ∧ Below w.heap.size w w' := by
  have hmm := @run_makeMap Try.prog
  have hnil := fun w => run_eql_map_nil (P := Try.prog) w 28 9 9 none Try.map28
  have hm0 : MapIs (w.alloc (.map #[] 0)) w.heap.size [] := ⟨#[], 0, heap_alloc_new _ _, rfl⟩
  go_enter Try.func7, Try.ntmps7
  go_wp2_with ((with_reducible refine law_put (.tmp 10) (.tmp 11) (.tmp 12) ?_ ?_ ?_ w.heap.size k v ?_ ?_ ?_ [] hm0 ?_); rfl; rfl; rfl; rfl; rfl; rfl; intro w1 hm1 hg1)
  go_ret
  exact ⟨rfl, hm1, ((Below.refl _ _).alloc (Nat.le_refl _) _).grown hg1 (by simp) (fun j hj => by cases hj; exact Nat.le_refl _)⟩

/-- withEntry on a map that is there. -/
theorem with_some (b : Nat) (l : List (ByteArray × ByteArray)) (k v : ByteArray) (w : World) (h : MapIs w b l) :
    Calls Try.prog 7 #[.map (some b), .string k, .string v] w fun e w' => e = .returned (.map (some b)) ∧ MapIs w' b (put k v l) ∧ w.grownBy w' (some b) := by
  have hnil := fun w => run_eql_map_nil (P := Try.prog) w 28 9 9 (some b) Try.map28
  go_enter Try.func7, Try.ntmps7
  go_wp2_with ((with_reducible refine law_put (.tmp 10) (.tmp 11) (.tmp 12) ?_ ?_ ?_ b k v ?_ ?_ ?_ l h ?_); rfl; rfl; rfl; rfl; rfl; rfl; intro w1 hm1 hg1)
  go_ret
  exact ⟨rfl, hm1, hg1⟩

theorem zzwith_nil (k v : ByteArray) (w : World) :
    Calls Try.prog 6 #[.map none, .string k, .string v] w fun e w' => e = .returned (.map (some w.heap.size)) ∧ MapIs w' w.heap.size [(k, v)] ∧ Below w.heap.size w w' := by
  go_enter Try.func6, Try.ntmps6
  go_wp2_with (go_at_call 7; (with_reducible refine (with_nil k v _).mono ?_); rintro e w1 ⟨rfl, hm1, hb1⟩)
  go_ret
  exact ⟨rfl, hm1, hb1⟩

theorem zzwith_some (b : Nat) (l : List (ByteArray × ByteArray)) (k v : ByteArray) (w : World) (h : MapIs w b l) :
    Calls Try.prog 6 #[.map (some b), .string k, .string v] w fun e w' => e = .returned (.map (some b)) ∧ MapIs w' b (put k v l) ∧ w.grownBy w' (some b) := by
  go_enter Try.func6, Try.ntmps6
  go_wp2_with (go_at_call 7; (with_reducible refine (with_some b l k v _ h).mono ?_); rintro e w1 ⟨rfl, hm1, hb1⟩)
  go_ret
  exact ⟨rfl, hm1, hb1⟩

/-- What zzFind answers. -/
def fint (k : ByteArray) (l : List (ByteArray × ByteArray)) : Int := match fidx k l with | some i => i | none => -1

theorem fidx_first {k x : ByteArray} {l : List (ByteArray × ByteArray)} {j : Nat} (hno : ∀ t, t < j → ∀ x, l[t]? ≠ some (k, x)) (h : l[j]? = some (k, x)) : fidx k l = some j := by
  induction l generalizing j with
  | nil => simp at h
  | cons p r ih =>
    unfold fidx
    cases j with
    | zero => simp at h; simp [h]
    | succ j =>
      have h0 : ¬ p.1 = k := fun e => hno 0 (Nat.zero_lt_succ j) p.2 (by simp [← e])
      rw [if_neg h0, ih (j := j) (fun t ht x => by simpa using hno (t + 1) (by omega) x) (by simpa using h)]
      rfl

theorem fidx_miss {k : ByteArray} {l : List (ByteArray × ByteArray)} (hno : ∀ t, t < l.length → ∀ x, l[t]? ≠ some (k, x)) : fidx k l = none := by
  cases h : fidx k l with
  | none => rfl
  | some i =>
    obtain ⟨x, hx, hlt⟩ := fidx_some h
    exact absurd hx (hno i hlt x)

theorem eq_of_test {a b : ByteArray} (h : (a.toList == b.toList) = true) : a = b := by
  rw [← beq_toListBytes, beq_bytes] at h; exact of_decide_eq_true h
theorem ne_of_test {a b : ByteArray} (h : (a.toList == b.toList) = false) : ¬ a = b := by
  rw [← beq_toListBytes, beq_bytes] at h; exact of_decide_eq_false h

theorem ret_int {k : IntKind} {a b : Int} (h : a = b) : Ending.returned (.int k a) = .returned (.int k b) := by rw [h]

theorem find_any (g c : Nat) (l : List (ByteArray × ByteArray)) (k : ByteArray) (hl : l.length ≤ 4097) (w : World) (hc : ∀ t, t < l.length → w.cell? ⟨g, t, none⟩ = (ks l)[t]?) :
    Calls Try.prog 5 #[.slice (some ⟨g, 0, none⟩) l.length c, .string k] w fun e w' => e = .returned (.int .i64 (fint k l)) ∧ w = w' := by
  go_enter Try.func5, Try.ntmps5
  go_wp2
  go_loop [5] (fun i => ∃ j : Nat, j ≤ l.length ∧ i = .int .i64 j ∧ ∀ t, t < j → ∀ x, l[t]? ≠ some (k, x)) (fun i => l.length - (intOf i).toNat)
  case atStart => exact ⟨0, Nat.zero_le _, rfl, fun t ht => absurd ht (Nat.not_lt_zero t)⟩
  case round =>
    obtain ⟨j, hj, rfl, hno⟩ := hrel
    have HN : Hid (∀ t, t < j → ∀ x, l[t]? ≠ some (k, x)) := hno
    clear hno
    by_cases hlt : j < l.length
    · obtain ⟨p, hp⟩ : ∃ p, l[j]? = some p := ⟨l[j], by simp [hlt]⟩
      have cj : w.cell? ⟨g, j, none⟩ = some (.string p.1) := by rw [hc j hlt]; simp [ks, hp]
      have HP : Hid (l[j]? = some p) := hp
      clear hp hc
      go_wp2
      · have ht : (p.fst.toList == k.toList) = true := by assumption
        have e := eq_of_test ht
        go_ret
        refine ⟨ret_int ?_, rfl⟩
        have hp : l[j]? = some (k, p.2) := by rw [HP.out, ← e]
        unfold fint
        rw [fidx_first HN.out hp]
      · have ht : (p.fst.toList == k.toList) = false := by assumption
        have e := ne_of_test ht
        go_round
        case rel =>
          refine ⟨j + 1, by omega, by go_num, fun t ht2 x hx => ?_⟩
          by_cases e2 : t = j
          · subst e2
            rw [HP.out] at hx
            exact e (by rw [Option.some.inj hx])
          · exact HN.out t (by omega) x hx
        case measure => simp [intOf]; omega
    · obtain rfl : j = l.length := by omega
      go_wp2
      go_ret
      refine ⟨ret_int ?_, rfl⟩
      unfold fint
      rw [fidx_miss HN.out]

/-- Some bool comes back. -/
def SomeBool (e : Ending) : Prop := ∃ b : Bool, e = .returned (.bool b)
theorem SomeBool.mk (b : Bool) : SomeBool (.returned (.bool b)) := ⟨b, rfl⟩

/-- zzBytes: some bool; nothing turns. -/
theorem bytes_any (b off n c : Nat) (K V : Nat → ByteArray) (k v : ByteArray) (hn : n ≤ maxLen) (w : World)
    (hK : ∀ t, t < n → w.cell? ⟨b, off + t * 2, none⟩ = some (.string (K t))) (hV : ∀ t, t < n → w.cell? ⟨b, off + t * 2 + 1, none⟩ = some (.string (V t))) :
    Calls Try.prog 4 #[.slice (some ⟨b, off, none⟩) n c, .string k, .string v] w fun e w' => SomeBool e ∧ w = w' := by
  unfold maxLen at hn
  go_enter Try.func4, Try.ntmps4
  go_wp2
  · go_ret
    exact ⟨SomeBool.mk _, rfl⟩
  go_loop [7, 8] (fun z i => ∃ (j : Nat) (s : Int), j ≤ n ∧ i = .int .i64 j ∧ z = .int .i64 s) (fun _ i => n - (intOf i).toNat)
  case atStart => exact ⟨0, _, Nat.zero_le _, rfl, rfl⟩
  case round =>
    obtain ⟨j, s, hj, rfl, rfl⟩ := hrel
    by_cases hlt : j < n
    · have c1 := hK j hlt
      have c2 := hV j hlt
      go_wp2
      · go_ret
        exact ⟨SomeBool.mk _, rfl⟩
      · go_ret
        exact ⟨SomeBool.mk _, rfl⟩
      · go_ret
        exact ⟨SomeBool.mk _, rfl⟩
      · go_ret
        exact ⟨SomeBool.mk _, rfl⟩
      · go_round
        case rel => exact ⟨j + 1, _, by omega, by go_num, rfl⟩
        case measure => simp [intOf]; omega
    · go_wp2
      all_goals (go_ret; exact ⟨SomeBool.mk _, rfl⟩)

theorem bytes_zero (a : Option Addr) (c : Nat) (k v : ByteArray) (w : World) :
    Calls Try.prog 4 #[.slice a 0 c, .string k, .string v] w fun e w' => SomeBool e ∧ w = w' := by
  go_enter Try.func4, Try.ntmps4
  go_wp2
  go_loop [7, 8] (fun z i => i = .int .i64 0 ∧ z = .int .i64 0) (fun _ _ => 0)
  case atStart => exact ⟨rfl, rfl⟩
  case round =>
    obtain ⟨rfl, rfl⟩ := hrel
    go_wp2
    all_goals (go_ret; exact ⟨SomeBool.mk _, rfl⟩)

end Go.Proofs.Qxb6617611a
