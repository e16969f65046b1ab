import Derived.Test.Qxb6617611aPlain
import Derived.MapKept
import Derived.WideMake
namespace Go.Proofs.Qxb6617611a
open Go.RowKit
set_option linter.unusedVariables false

/-- Block b of w is a map whose entries are l, in that order. -/
def MapIs (w : World) (b : Nat) (l : List (ByteArray × ByteArray)) : Prop :=
  ∃ es clock, w.heap[b]? = some (.map es clock) ∧ es.toList.map (fun e => (e.key, e.val)) = l.map (fun p => (Value.string p.1, Value.string p.2))

theorem MapIs.lt {w : World} {b : Nat} {l : List (ByteArray × ByteArray)} (h : MapIs w b l) : b < w.heap.size := by
  obtain ⟨es, clock, hb, _⟩ := h
  exact (Array.getElem?_eq_some_iff.1 hb).1

theorem MapIs.same {w w' : World} {b : Nat} {l : List (ByteArray × ByteArray)} (h : MapIs w b l) (e : w'.heap[b]? = w.heap[b]?) : MapIs w' b l := by
  obtain ⟨es, clock, hb, hl⟩ := h
  exact ⟨es, clock, by rw [e]; exact hb, hl⟩

theorem findNow_eq (k : ByteArray) (L : List MapEntry) (l : List (ByteArray × ByteArray)) (i : Nat) (h : L.map (fun e => (e.key, e.val)) = l.map (fun p => (Value.string p.1, Value.string p.2))) :
    Instr.findNow .string (.string k) L i = some ((fidx k l).map fun j => (i + j, Value.string ((l[j]?).getD (k, k)).2)) := by
  induction L generalizing l i with
  | nil =>
    cases l with
    | nil => rfl
    | cons p r => simp at h
  | cons e L ih =>
    cases l with
    | nil => simp at h
    | cons p r =>
      simp only [List.map_cons, List.cons.injEq, Prod.mk.injEq] at h
      obtain ⟨⟨h1, h2⟩, h3⟩ := h
      unfold Instr.findNow fidx
      rw [h1]
      simp only [Instr.sameNow, beq_bytes]
      by_cases e1 : p.1 = k
      · have e2 : k = p.1 := e1.symm
        simp [e2, h2]
      · have e2 : ¬ k = p.1 := fun x => e1 x.symm
        simp only [e1, e2, decide_false, if_false]
        rw [ih r (i + 1) h3]
        cases hf : fidx k r with
        | none => rfl
        | some j => simp [Nat.add_assoc, Nat.add_comm 1 j]

theorem Try.map28 : Try.prog.underlying 28 = some (.map 9 9) := Try.underlying28
theorem Try.str9 : Try.prog.underlying 9 = some .string := Try.underlying9

/-- 'm[k] = v'. -/
theorem run_put {w : World} {b : Nat} {l : List (ByteArray × ByteArray)} (h : MapIs w b l) (k v : ByteArray) :
    ∃ w', (Instr.mapUpdate 28 (.map (some b)) (.string k) (.string v)).run Try.prog w = .ok () w' ∧ MapIs w' b (put k v l) ∧ w.grownBy w' (some b) := by
  obtain ⟨es, clock, hb, hl⟩ := h
  have hf := findNow_eq k es.toList l 0 hl
  have hk : MapKept.IsKey .string (.string k) := by simp [MapKept.IsKey]
  have hc : (Instr.checkKey false 10000 9 (.string k)).run Try.prog w = .ok () w := MapKept.run_checkKey Try.str9 hk false 9999
  have hlen : es.size = l.length := by have := congrArg List.length hl; simpa using this
  cases hq : fidx k l with
  | none =>
    rw [hq] at hf
    refine ⟨_, by simp [Instr.mapUpdate, run_underlying Try.map28, MapKept.run_getObj_map hb, hc, MapKept.run_findKey Try.str9 hf, MapKept.run_setObj_map _ hb, Result.andThen]; rfl, ?_, ?_⟩
    · refine ⟨_, _, (MapKept.heap_set hb).1, ?_⟩
      rw [put_none hq, List.map_append, ← hl]
      simp
    · exact ⟨rfl, rfl, rfl, by simp, fun j hj hne => (MapKept.heap_set hb).2 j (fun e => hne (by rw [e]))⟩
  | some i =>
    rw [hq] at hf
    obtain ⟨x, hx, hlt⟩ := fidx_some hq
    have hi : i < es.size := by omega
    have hei : (es.toList.map (fun e => (e.key, e.val)))[i]? = some (.string k, .string x) := by rw [hl]; simp [hx]
    have hek : es[i].key = .string k := by
      simp [hi] at hei
      exact hei.1
    refine ⟨_, by simp [Instr.mapUpdate, run_underlying Try.map28, MapKept.run_getObj_map hb, hc, MapKept.run_findKey Try.str9 hf, hi, hek, MapKept.run_keyThatStays hk, MapKept.run_setObj_map _ hb, Result.andThen]; rfl, ?_, ?_⟩
    · refine ⟨_, _, (MapKept.heap_set hb).1, ?_⟩
      rw [put_some hq, List.map_set, ← hl]
      apply List.ext_getElem?
      intro j
      by_cases e : i = j
      · subst e
        simp [hi]
      · simp [e]
    · exact ⟨rfl, rfl, rfl, by simp, fun j hj hne => (MapKept.heap_set hb).2 j (fun e => hne (by rw [e]))⟩

/-- 'got, ok := m[k]', k a key of m. -/
theorem run_get {w : World} {b : Nat} {l : List (ByteArray × ByteArray)} (h : MapIs w b l) (ho : Once l) (i : Nat) (k x : ByteArray) (hi : l[i]? = some (k, x)) :
    (Instr.lookup 28 (.map (some b)) (.string k) true).run Try.prog w = .ok (.tuple #[.string x, .bool true]) w := by
  obtain ⟨es, clock, hb, hl⟩ := h
  have hf := findNow_eq k es.toList l 0 hl
  rw [ho i k x hi] at hf
  simp only [Option.map_some, hi, Option.getD_some] at hf
  have hk : MapKept.IsKey .string (.string k) := by simp [MapKept.IsKey]
  have hc : (Instr.checkKey es.isEmpty 10000 9 (.string k)).run Try.prog w = .ok () w := MapKept.run_checkKey Try.str9 hk _ 9999
  simp [Instr.lookup, run_underlying Try.map28, MapKept.run_getObj_map hb, hc, MapKept.run_findKey Try.str9 hf, Result.andThen]

/-- 'len(m)'. -/
theorem run_mlen {w : World} {b : Nat} {l : List (ByteArray × ByteArray)} (h : MapIs w b l) (ty : TypeId) :
    (Builtin.len_ #[28] ty #[.map (some b)]).run Try.prog w = .ok (goInt l.length) w := by
  obtain ⟨es, clock, hb, hl⟩ := h
  have hlen : es.size = l.length := by have := congrArg List.length hl; simpa using this
  simp [Builtin.len_, run_underlying Try.map28, MapKept.run_getObj_map hb, hlen]

theorem law_put {ops : Array Oper} {Q : Exit → Act → World → Prop} {a : Act} {w : World} {rest : List Oper} {o : Oper} (x y z : Operand) (ho : o.op = .mapUpdate 28 x y z) (hdn : o.dst = none) (hw : Region.wanted o (yielded ops a.tmps) = true)
    (b : Nat) (k v : ByteArray) (hx : a.eval x = .map (some b)) (hy : a.eval y = .string k) (hz : a.eval z = .string v) (l : List (ByteArray × ByteArray)) (h : MapIs w b l)
    (hK : ∀ w', MapIs w' b (put k v l) → w.grownBy w' (some b) → wpList Try.prog ops Q rest a w') : wpList Try.prog ops Q (o :: rest) a w :=
  BigFrame.wpList_want hw fun K hK' => by
    have hput : a.put o.dst undef = a := by rw [hdn]; rfl
    obtain ⟨w', hrun, h1, h2⟩ := run_put h k v
    unfold Oper.wp execOp
    simp only [ho, hx, hy, hz, Sem.run_bind, hrun, Result.andThen_ok]
    show K (a.put o.dst undef) _
    rw [hput]
    exact hK' _ _ (hK w' h1 h2)

end Go.Proofs.Qxb6617611a
