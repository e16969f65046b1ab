import Derived.Test.Qxb6617607aBox
namespace Go.Proofs.Qxb6617607a
open Go.RowKit
set_option linter.unusedVariables false

def aC (fr al cr fi ai fo co : Int) (ow hn : Bool) : Array Value := #[.int .i64 fr, .int .i64 al, .int .i64 cr, .int .i64 fi, .int .i64 ai, .int .i64 fo, .int .i64 co, .bool ow, .bool hn]
def xC (T : Nat → Int) (bn ms r : Int) (s u : Bool) : Array Value := #[.int .u8 (T 0), .int .u8 (T 1), .int .u8 (T 2), .int .u8 (T 3), .int .u8 (T 4), .int .u8 (T 5), .int .u8 (T 6), .int .u8 (T 7), .int .u8 (T 8), .int .u8 (T 9), .int .u8 (T 10), .int .u8 (T 11), .int .u8 (T 12), .int .u8 (T 13), .int .u8 (T 14), .int .u8 (T 15), .int .u32 bn, .int .i64 ms, .int .i64 r, .bool s, .bool u]
theorem aC_size (fr al cr fi ai fo co : Int) (ow hn : Bool) : (aC fr al cr fi ai fo co ow hn).size = 9 := rfl
theorem xC_size (T : Nat → Int) (bn ms r : Int) (s u : Bool) : (xC T bn ms r s u).size = 21 := rfl
theorem aC_one (fr al cr fi ai fo co : Int) (ow hn : Bool) : (aC fr al cr fi ai fo co ow hn).all (·.oneCell') = true := by simp [aC, Value.oneCell']
theorem xC_one (T : Nat → Int) (bn ms r : Int) (s u : Bool) : (xC T bn ms r s u).all (·.oneCell') = true := by simp [xC, Value.oneCell']
theorem Try.size23 : (Try.prog.info? 23).map (·.size) = some 9 := by kernel_rfl
theorem Try.size27 : (Try.prog.info? 27).map (·.size) = some 21 := by kernel_rfl
theorem Try.size3 : (Try.prog.info? 3).map (·.size) = some 1 := by kernel_rfl
theorem Try.size4 : (Try.prog.info? 4).map (·.size) = some 1 := by kernel_rfl
theorem Try.zero23 : (Try.prog.info? 23).map (fun i => i.zero) = some (some (.agg (aC 0 0 0 0 0 0 0 false false))) := by kernel_rfl
theorem Try.zero27 : (Try.prog.info? 27).map (fun i => i.zero) = some (some (.agg (xC (fun _ => 0) 0 0 0 false false))) := by kernel_rfl

/-- 'missed', its answer known. -/
theorem missed_is (fr al cr fi ai fo co : Int) (ow hn : Bool) (T : Nat → Int) (bn ms r : Int) (s u : Bool) (b : Bool) (hb : mb fr cr ow hn r s u = b) (w : World) :
    Calls Try.prog 5 #[.agg (aC fr al cr fi ai fo co ow hn), .agg (xC T bn ms r s u)] w fun e w' => e = .returned (.bool b) ∧ Below w.heap.size w w' := by
  subst hb
  exact missed_any fr al cr fi ai fo co ow hn T bn ms r s u w

section
variable {ops : Array Oper} {Q : Exit → Act → World → Prop} {a : Act} {w : World} {rest : List Oper} {o : Oper} {w0 : World} {L : List (Nat × Array Value)}

theorem law_bx (ty : TypeId) (x : Operand) (ho : o.op = .box ty x) (hw : Region.wanted o (yielded ops a.tmps) = true) (hst : St w0 w L) (cs : Array Value) (hx : a.eval x = .agg cs)
    (h : ∀ g w', St w0 w' (L ++ [(g, cs)]) → wpList Try.prog ops Q rest (a.put o.dst (.pointer (some ⟨g, 0, none⟩))) w') : wpList Try.prog ops Q (o :: rest) a w := law_box hst hw ty x ho cs hx h
theorem law_alx (ho : o.op = .alloc 27) (d : Nat) (hd : o.dst = some d) (hw : Region.wanted o (yielded ops a.tmps) = true) (hst : St w0 w L)
    (h : ∀ g w', St w0 w' (L ++ [(g, xC (fun _ => 0) 0 0 0 false false)]) → wpList Try.prog ops Q rest (a.put o.dst (.pointer (some ⟨g, 0, none⟩))) w') : wpList Try.prog ops Q (o :: rest) a w := by
  obtain ⟨i, hi, hz⟩ := Option.map_eq_some_iff.1 Try.zero27
  exact law_alloc hst hw 27 ho _ i hi hz h
theorem law_ala (ho : o.op = .alloc 23) (d : Nat) (hd : o.dst = some d) (hw : Region.wanted o (yielded ops a.tmps) = true) (hst : St w0 w L)
    (h : ∀ g w', St w0 w' (L ++ [(g, aC 0 0 0 0 0 0 0 false false)]) → wpList Try.prog ops Q rest (a.put o.dst (.pointer (some ⟨g, 0, none⟩))) w') : wpList Try.prog ops Q (o :: rest) a w := by
  obtain ⟨i, hi, hz⟩ := Option.map_eq_some_iff.1 Try.zero23
  exact law_alloc hst hw 23 ho _ i hi hz h
theorem law_ldx (x : Operand) (ho : o.op = .load 27 x) (hw : Region.wanted o (yielded ops a.tmps) = true) (hst : St w0 w L) (n : Nat) (g : Nat) (T : Nat → Int) (bn ms r : Int) (s u : Bool) (hl : L[n]? = some (g, xC T bn ms r s u))
    (hx : a.eval x = .pointer (some ⟨g, 0, none⟩)) (h : wpList Try.prog ops Q rest (a.put o.dst (.agg (xC T bn ms r s u))) w) : wpList Try.prog ops Q (o :: rest) a w :=
  law_load hst n hw 27 x ho g _ hl hx _ Try.underlying27 rfl Try.size27 h
theorem law_lda (x : Operand) (ho : o.op = .load 23 x) (hw : Region.wanted o (yielded ops a.tmps) = true) (hst : St w0 w L) (n : Nat) (g : Nat) (fr al cr fi ai fo co : Int) (ow hn : Bool) (hl : L[n]? = some (g, aC fr al cr fi ai fo co ow hn))
    (hx : a.eval x = .pointer (some ⟨g, 0, none⟩)) (h : wpList Try.prog ops Q rest (a.put o.dst (.agg (aC fr al cr fi ai fo co ow hn))) w) : wpList Try.prog ops Q (o :: rest) a w :=
  law_load hst n hw 23 x ho g _ hl hx _ Try.underlying23 rfl Try.size23 h
theorem law_stx (x y : Operand) (ho : o.op = .store 27 x y) (hdn : o.dst = none) (hw : Region.wanted o (yielded ops a.tmps) = true) (hst : St w0 w L) (n : Nat) (g : Nat) (T : Nat → Int) (bn ms r : Int) (s u : Bool) (T' : Nat → Int) (bn' ms' r' : Int) (s' u' : Bool) (hl : L[n]? = some (g, xC T' bn' ms' r' s' u'))
    (hx : a.eval x = .pointer (some ⟨g, 0, none⟩)) (hy : a.eval y = .agg (xC T bn ms r s u)) (h : ∀ w', St w0 w' (L.set n (g, xC T bn ms r s u)) → wpList Try.prog ops Q rest a w') : wpList Try.prog ops Q (o :: rest) a w :=
  law_store hst n hw 27 x y ho hdn g _ _ hl hx hy Try.size27 rfl (xC_one _ _ _ _ _ _) h
theorem law_sta (x y : Operand) (ho : o.op = .store 23 x y) (hdn : o.dst = none) (hw : Region.wanted o (yielded ops a.tmps) = true) (hst : St w0 w L) (n : Nat) (g : Nat) (fr al cr fi ai fo co : Int) (ow hn : Bool) (fr' al' cr' fi' ai' fo' co' : Int) (ow' hn' : Bool) (hl : L[n]? = some (g, aC fr' al' cr' fi' ai' fo' co' ow' hn'))
    (hx : a.eval x = .pointer (some ⟨g, 0, none⟩)) (hy : a.eval y = .agg (aC fr al cr fi ai fo co ow hn)) (h : ∀ w', St w0 w' (L.set n (g, aC fr al cr fi ai fo co ow hn)) → wpList Try.prog ops Q rest a w') : wpList Try.prog ops Q (o :: rest) a w :=
  law_store hst n hw 23 x y ho hdn g _ _ hl hx hy Try.size23 rfl (aC_one _ _ _ _ _ _ _ _ _) h
theorem law_x18 (x y : Operand) (ho : o.op = .store 3 x y) (hdn : o.dst = none) (hw : Region.wanted o (yielded ops a.tmps) = true) (hst : St w0 w L) (n : Nat) (g : Nat) (T : Nat → Int) (bn ms r : Int) (s u : Bool) (hl : L[n]? = some (g, xC T bn ms r s u))
    (hx : a.eval x = .pointer (some ⟨g, 18, none⟩)) (v : Int) (hy : a.eval y = .int .i64 v)
    (h : ∀ w', St w0 w' (L.set n (g, xC T bn ms v s u)) → wpList Try.prog ops Q rest a w') : wpList Try.prog ops Q (o :: rest) a w :=
  law_store1 hst n hw 3 x y ho hdn g 18 _ _ hl hx _ hy rfl rfl (by rw [xC_size]; decide) rfl Try.size3 h
theorem law_x19 (x y : Operand) (ho : o.op = .store 4 x y) (hdn : o.dst = none) (hw : Region.wanted o (yielded ops a.tmps) = true) (hst : St w0 w L) (n : Nat) (g : Nat) (T : Nat → Int) (bn ms r : Int) (s u : Bool) (hl : L[n]? = some (g, xC T bn ms r s u))
    (hx : a.eval x = .pointer (some ⟨g, 19, none⟩)) (v : Bool) (hy : a.eval y = .bool v)
    (h : ∀ w', St w0 w' (L.set n (g, xC T bn ms r v u)) → wpList Try.prog ops Q rest a w') : wpList Try.prog ops Q (o :: rest) a w :=
  law_store1 hst n hw 4 x y ho hdn g 19 _ _ hl hx _ hy rfl rfl (by rw [xC_size]; decide) rfl Try.size4 h
theorem law_x20 (x y : Operand) (ho : o.op = .store 4 x y) (hdn : o.dst = none) (hw : Region.wanted o (yielded ops a.tmps) = true) (hst : St w0 w L) (n : Nat) (g : Nat) (T : Nat → Int) (bn ms r : Int) (s u : Bool) (hl : L[n]? = some (g, xC T bn ms r s u))
    (hx : a.eval x = .pointer (some ⟨g, 20, none⟩)) (v : Bool) (hy : a.eval y = .bool v)
    (h : ∀ w', St w0 w' (L.set n (g, xC T bn ms r s v)) → wpList Try.prog ops Q rest a w') : wpList Try.prog ops Q (o :: rest) a w :=
  law_store1 hst n hw 4 x y ho hdn g 20 _ _ hl hx _ hy rfl rfl (by rw [xC_size]; decide) rfl Try.size4 h
theorem law_a8 (x y : Operand) (ho : o.op = .store 4 x y) (hdn : o.dst = none) (hw : Region.wanted o (yielded ops a.tmps) = true) (hst : St w0 w L) (n : Nat) (g : Nat) (fr al cr fi ai fo co : Int) (ow hn : Bool) (hl : L[n]? = some (g, aC fr al cr fi ai fo co ow hn))
    (hx : a.eval x = .pointer (some ⟨g, 8, none⟩)) (v : Bool) (hy : a.eval y = .bool v)
    (h : ∀ w', St w0 w' (L.set n (g, aC fr al cr fi ai fo co ow v)) → wpList Try.prog ops Q rest a w') : wpList Try.prog ops Q (o :: rest) a w :=
  law_store1 hst n hw 4 x y ho hdn g 8 _ _ hl hx _ hy rfl rfl (by rw [aC_size]; decide) rfl Try.size4 h
theorem law_l18 (x : Operand) (ho : o.op = .load 3 x) (hw : Region.wanted o (yielded ops a.tmps) = true) (hst : St w0 w L) (n : Nat) (g : Nat) (T : Nat → Int) (bn ms r : Int) (s u : Bool) (hl : L[n]? = some (g, xC T bn ms r s u))
    (hx : a.eval x = .pointer (some ⟨g, 18, none⟩)) (h : wpList Try.prog ops Q rest (a.put o.dst (.int .i64 r)) w) : wpList Try.prog ops Q (o :: rest) a w :=
  law_load1 hst n hw 3 x ho g 18 _ hl hx _ rfl _ Try.underlying3 rfl h
theorem law_l19 (x : Operand) (ho : o.op = .load 4 x) (hw : Region.wanted o (yielded ops a.tmps) = true) (hst : St w0 w L) (n : Nat) (g : Nat) (T : Nat → Int) (bn ms r : Int) (s u : Bool) (hl : L[n]? = some (g, xC T bn ms r s u))
    (hx : a.eval x = .pointer (some ⟨g, 19, none⟩)) (h : wpList Try.prog ops Q rest (a.put o.dst (.bool s)) w) : wpList Try.prog ops Q (o :: rest) a w :=
  law_load1 hst n hw 4 x ho g 19 _ hl hx _ rfl _ Try.underlying4 rfl h
theorem law_l0 (x : Operand) (ho : o.op = .load 3 x) (hw : Region.wanted o (yielded ops a.tmps) = true) (hst : St w0 w L) (n : Nat) (g : Nat) (fr al cr fi ai fo co : Int) (ow hn : Bool) (hl : L[n]? = some (g, aC fr al cr fi ai fo co ow hn))
    (hx : a.eval x = .pointer (some ⟨g, 0, none⟩)) (h : wpList Try.prog ops Q rest (a.put o.dst (.int .i64 fr)) w) : wpList Try.prog ops Q (o :: rest) a w :=
  law_load1 hst n hw 3 x ho g 0 _ hl hx _ rfl _ Try.underlying3 rfl h
theorem law_l2 (x : Operand) (ho : o.op = .load 3 x) (hw : Region.wanted o (yielded ops a.tmps) = true) (hst : St w0 w L) (n : Nat) (g : Nat) (fr al cr fi ai fo co : Int) (ow hn : Bool) (hl : L[n]? = some (g, aC fr al cr fi ai fo co ow hn))
    (hx : a.eval x = .pointer (some ⟨g, 2, none⟩)) (h : wpList Try.prog ops Q rest (a.put o.dst (.int .i64 cr)) w) : wpList Try.prog ops Q (o :: rest) a w :=
  law_load1 hst n hw 3 x ho g 2 _ hl hx _ rfl _ Try.underlying3 rfl h
theorem law_l7 (x : Operand) (ho : o.op = .load 4 x) (hw : Region.wanted o (yielded ops a.tmps) = true) (hst : St w0 w L) (n : Nat) (g : Nat) (fr al cr fi ai fo co : Int) (ow hn : Bool) (hl : L[n]? = some (g, aC fr al cr fi ai fo co ow hn))
    (hx : a.eval x = .pointer (some ⟨g, 7, none⟩)) (h : wpList Try.prog ops Q rest (a.put o.dst (.bool ow)) w) : wpList Try.prog ops Q (o :: rest) a w :=
  law_load1 hst n hw 4 x ho g 7 _ hl hx _ rfl _ Try.underlying4 rfl h
end

end Go.Proofs.Qxb6617607a
