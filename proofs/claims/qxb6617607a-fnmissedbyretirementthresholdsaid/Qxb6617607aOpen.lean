import Derived.Test.Qxb6617607aLaws
import Derived.ProofKit
import Derived.OpenShut
namespace Go.Proofs.Qxb6617607a
open Go.ChangeShapes Go.WideShapes Go.ChangeAt Go.RowKit
set_option linter.unusedVariables false

theorem Try.cells2 : Try.prog.cellsOf 2 = 1 := by kernel_rfl
theorem Try.cells3 : Try.prog.cellsOf 3 = 1 := by kernel_rfl
theorem Try.cells4 : Try.prog.cellsOf 4 = 1 := by kernel_rfl
theorem Try.cells5 : Try.prog.cellsOf 5 = 1 := by kernel_rfl
theorem Try.cells23 : Try.prog.cellsOf 23 = 9 := by kernel_rfl
theorem Try.cells24 : Try.prog.cellsOf 24 = 16 := by kernel_rfl
theorem Try.cells25 : Try.prog.cellsOf 25 = 1 := by kernel_rfl
theorem Try.cells27 : Try.prog.cellsOf 27 = 21 := by kernel_rfl

theorem cons_of_len {α : Type} {l : List α} {n : Nat} (h : l.length = n + 1) : ∃ a l', l = a :: l' ∧ l'.length = n := by
  cases l with
  | nil => simp at h
  | cons a l' => exact ⟨a, l', rfl, by simpa using h⟩

section
variable {H : Type} {enc : TypeId × Value → H} {w : World} {base : Nat} {spare : Nat → Bool} {held : Bool}

theorem one_int {t : TypeId} {k : IntKind} {n : Nat} {l : List Value} {c : Value} {x : Option (DataW H × List MemPlace)} (hu : Try.prog.underlying t = some (.int k)) (hx : x.isSome = true) (hl : l = [c]) (h : DataW.trod enc Try.prog w base spare held n t l = x) :
    ∃ z, c = .int k z ∧ (Lit.int k z).wf = true := by
  obtain ⟨y, rfl⟩ := Option.isSome_iff_exists.1 hx
  obtain ⟨z, e, _, hw⟩ := DataW.trod_int hu h
  rw [hl] at e
  exact ⟨z, by simpa using e, hw⟩
theorem one_bool {t : TypeId} {n : Nat} {l : List Value} {c : Value} {x : Option (DataW H × List MemPlace)} (hu : Try.prog.underlying t = some .bool) (hx : x.isSome = true) (hl : l = [c]) (h : DataW.trod enc Try.prog w base spare held n t l = x) :
    ∃ z, c = .bool z := by
  obtain ⟨y, rfl⟩ := Option.isSome_iff_exists.1 hx
  obtain ⟨z, e, _⟩ := DataW.trod_bool hu h
  rw [hl] at e
  exact ⟨z, by simpa using e⟩

theorem open_abs {v : Value} {d : DataW H} {p : List MemPlace} (hv : ∃ cs : Array Value, v = .agg cs ∧ cs.size = Try.prog.cellsOf 23) (h : DataW.Trod enc Try.prog w base spare held 23 v d p) :
    ∃ (fr al cr fi ai fo co : Int) (ow hn : Bool), v = .agg (aC fr al cr fi ai fo co ow hn) ∧ (Lit.int .i64 fr).wf = true ∧ (Lit.int .i64 cr).wf = true := by
  obtain ⟨⟨l⟩, rfl, hs⟩ := hv
  rw [Try.cells23] at hs
  have h0 : l.length = 9 := by simpa using hs
  clear hs
  obtain ⟨c0, l1, rfl, h1⟩ := cons_of_len h0
  obtain ⟨c1, l2, rfl, h2⟩ := cons_of_len h1
  obtain ⟨c2, l3, rfl, h3⟩ := cons_of_len h2
  obtain ⟨c3, l4, rfl, h4⟩ := cons_of_len h3
  obtain ⟨c4, l5, rfl, h5⟩ := cons_of_len h4
  obtain ⟨c5, l6, rfl, h6⟩ := cons_of_len h5
  obtain ⟨c6, l7, rfl, h7⟩ := cons_of_len h6
  obtain ⟨c7, l8, rfl, h8⟩ := cons_of_len h7
  obtain ⟨c8, l9, rfl, h9⟩ := cons_of_len h8
  obtain rfl := List.eq_nil_of_length_eq_zero h9
  obtain ⟨fuel, hf⟩ := h
  obtain ⟨xs, n, _, _, _, hlen, hfs⟩ := DataW.trod_struct Try.underlying23 hf
  have hsome : ∀ i, i < 9 → (xs[i]?).isSome = true := fun i hi => by
    have : i < xs.length := by rw [hlen]; exact hi
    simp [this]
  obtain ⟨fr, rfl, w0⟩ := one_int (c := c0) Try.underlying3 (hsome 0 (by decide)) (by show List.take (Try.prog.cellsOf 3) _ = _; rw [Try.cells3]; rfl) (hfs 0 _ rfl)
  obtain ⟨al, rfl, w1⟩ := one_int (c := c1) Try.underlying3 (hsome 1 (by decide)) (by show List.take (Try.prog.cellsOf 3) _ = _; rw [Try.cells3]; rfl) (hfs 1 _ rfl)
  obtain ⟨cr, rfl, w2⟩ := one_int (c := c2) Try.underlying3 (hsome 2 (by decide)) (by show List.take (Try.prog.cellsOf 3) _ = _; rw [Try.cells3]; rfl) (hfs 2 _ rfl)
  obtain ⟨fi, rfl, w3⟩ := one_int (c := c3) Try.underlying2 (hsome 3 (by decide)) (by show List.take (Try.prog.cellsOf 2) _ = _; rw [Try.cells2]; rfl) (hfs 3 _ rfl)
  obtain ⟨ai, rfl, w4⟩ := one_int (c := c4) Try.underlying2 (hsome 4 (by decide)) (by show List.take (Try.prog.cellsOf 2) _ = _; rw [Try.cells2]; rfl) (hfs 4 _ rfl)
  obtain ⟨fo, rfl, w5⟩ := one_int (c := c5) Try.underlying2 (hsome 5 (by decide)) (by show List.take (Try.prog.cellsOf 2) _ = _; rw [Try.cells2]; rfl) (hfs 5 _ rfl)
  obtain ⟨co, rfl, w6⟩ := one_int (c := c6) Try.underlying2 (hsome 6 (by decide)) (by show List.take (Try.prog.cellsOf 2) _ = _; rw [Try.cells2]; rfl) (hfs 6 _ rfl)
  obtain ⟨ow, rfl⟩ := one_bool (c := c7) Try.underlying4 (hsome 7 (by decide)) (by show List.take (Try.prog.cellsOf 4) _ = _; rw [Try.cells4]; rfl) (hfs 7 _ rfl)
  obtain ⟨hn, rfl⟩ := one_bool (c := c8) Try.underlying4 (hsome 8 (by decide)) (by show List.take (Try.prog.cellsOf 4) _ = _; rw [Try.cells4]; rfl) (hfs 8 _ rfl)
  exact ⟨fr, al, cr, fi, ai, fo, co, ow, hn, rfl, w0, w2⟩

theorem open_lap {v : Value} {d : DataW H} {p : List MemPlace} (hv : ∃ cs : Array Value, v = .agg cs ∧ cs.size = Try.prog.cellsOf 27) (h : DataW.Trod enc Try.prog w base spare held 27 v d p) :
    ∃ (T : Nat → Int) (bn ms r : Int) (s u : Bool), v = .agg (xC T bn ms r s u) ∧ (Lit.int .i64 r).wf = true := by
  obtain ⟨⟨l⟩, rfl, hs⟩ := hv
  rw [Try.cells27] at hs
  have h0 : l.length = 21 := by simpa using hs
  clear hs
  obtain ⟨c0, l1, rfl, h1⟩ := cons_of_len h0
  obtain ⟨c1, l2, rfl, h2⟩ := cons_of_len h1
  obtain ⟨c2, l3, rfl, h3⟩ := cons_of_len h2
  obtain ⟨c3, l4, rfl, h4⟩ := cons_of_len h3
  obtain ⟨c4, l5, rfl, h5⟩ := cons_of_len h4
  obtain ⟨c5, l6, rfl, h6⟩ := cons_of_len h5
  obtain ⟨c6, l7, rfl, h7⟩ := cons_of_len h6
  obtain ⟨c7, l8, rfl, h8⟩ := cons_of_len h7
  obtain ⟨c8, l9, rfl, h9⟩ := cons_of_len h8
  obtain ⟨c9, l10, rfl, h10⟩ := cons_of_len h9
  obtain ⟨c10, l11, rfl, h11⟩ := cons_of_len h10
  obtain ⟨c11, l12, rfl, h12⟩ := cons_of_len h11
  obtain ⟨c12, l13, rfl, h13⟩ := cons_of_len h12
  obtain ⟨c13, l14, rfl, h14⟩ := cons_of_len h13
  obtain ⟨c14, l15, rfl, h15⟩ := cons_of_len h14
  obtain ⟨c15, l16, rfl, h16⟩ := cons_of_len h15
  obtain ⟨c16, l17, rfl, h17⟩ := cons_of_len h16
  obtain ⟨c17, l18, rfl, h18⟩ := cons_of_len h17
  obtain ⟨c18, l19, rfl, h19⟩ := cons_of_len h18
  obtain ⟨c19, l20, rfl, h20⟩ := cons_of_len h19
  obtain ⟨c20, l21, rfl, h21⟩ := cons_of_len h20
  obtain rfl := List.eq_nil_of_length_eq_zero h21
  obtain ⟨fuel, hf⟩ := h
  obtain ⟨xs, n, _, _, _, hlen, hfs⟩ := DataW.trod_struct Try.underlying27 hf
  have hsome : ∀ i, i < 6 → (xs[i]?).isSome = true := fun i hi => by
    have : i < xs.length := by rw [hlen]; exact hi
    simp [this]
  obtain ⟨bn, rfl, w16⟩ := one_int (c := c16) Try.underlying25 (hsome 1 (by decide)) (by show List.take (Try.prog.cellsOf 25) _ = _; rw [Try.cells25]; rfl) (hfs 1 _ rfl)
  obtain ⟨ms, rfl, w17⟩ := one_int (c := c17) Try.underlying3 (hsome 2 (by decide)) (by show List.take (Try.prog.cellsOf 3) _ = _; rw [Try.cells3]; rfl) (hfs 2 _ rfl)
  obtain ⟨r, rfl, w18⟩ := one_int (c := c18) Try.underlying3 (hsome 3 (by decide)) (by show List.take (Try.prog.cellsOf 3) _ = _; rw [Try.cells3]; rfl) (hfs 3 _ rfl)
  obtain ⟨s, rfl⟩ := one_bool (c := c19) Try.underlying4 (hsome 4 (by decide)) (by show List.take (Try.prog.cellsOf 4) _ = _; rw [Try.cells4]; rfl) (hfs 4 _ rfl)
  obtain ⟨u, rfl⟩ := one_bool (c := c20) Try.underlying4 (hsome 5 (by decide)) (by show List.take (Try.prog.cellsOf 4) _ = _; rw [Try.cells4]; rfl) (hfs 5 _ rfl)
  obtain ⟨y, hy⟩ := Option.isSome_iff_exists.1 (hsome 0 (by decide))
  have ht : DataW.trod enc Try.prog w base spare held n 24 (List.take (Try.prog.cellsOf 24) [c0, c1, c2, c3, c4, c5, c6, c7, c8, c9, c10, c11, c12, c13, c14, c15, .int .u32 bn, .int .i64 ms, .int .i64 r, .bool s, .bool u]) = some y := (hfs 0 _ rfl).trans hy
  rw [Try.cells24] at ht
  have ht' : DataW.trod enc Try.prog w base spare held n 24 [c0, c1, c2, c3, c4, c5, c6, c7, c8, c9, c10, c11, c12, c13, c14, c15] = some y := ht
  obtain ⟨ys, m, _, _, _, hlen', hfs'⟩ := DataW.trod_array Try.underlying24 ht'
  have hsome' : ∀ i, i < 16 → (ys[i]?).isSome = true := fun i hi => by
    have : i < ys.length := by rw [hlen']; exact hi
    simp [this]
  obtain ⟨t0, rfl, v0⟩ := one_int (c := c0) Try.underlying5 (hsome' 0 (by decide)) (by show List.take (Try.prog.cellsOf 5) _ = _; rw [Try.cells5]; rfl) (hfs' 0 (by decide))
  obtain ⟨t1, rfl, v1⟩ := one_int (c := c1) Try.underlying5 (hsome' 1 (by decide)) (by show List.take (Try.prog.cellsOf 5) _ = _; rw [Try.cells5]; rfl) (hfs' 1 (by decide))
  obtain ⟨t2, rfl, v2⟩ := one_int (c := c2) Try.underlying5 (hsome' 2 (by decide)) (by show List.take (Try.prog.cellsOf 5) _ = _; rw [Try.cells5]; rfl) (hfs' 2 (by decide))
  obtain ⟨t3, rfl, v3⟩ := one_int (c := c3) Try.underlying5 (hsome' 3 (by decide)) (by show List.take (Try.prog.cellsOf 5) _ = _; rw [Try.cells5]; rfl) (hfs' 3 (by decide))
  obtain ⟨t4, rfl, v4⟩ := one_int (c := c4) Try.underlying5 (hsome' 4 (by decide)) (by show List.take (Try.prog.cellsOf 5) _ = _; rw [Try.cells5]; rfl) (hfs' 4 (by decide))
  obtain ⟨t5, rfl, v5⟩ := one_int (c := c5) Try.underlying5 (hsome' 5 (by decide)) (by show List.take (Try.prog.cellsOf 5) _ = _; rw [Try.cells5]; rfl) (hfs' 5 (by decide))
  obtain ⟨t6, rfl, v6⟩ := one_int (c := c6) Try.underlying5 (hsome' 6 (by decide)) (by show List.take (Try.prog.cellsOf 5) _ = _; rw [Try.cells5]; rfl) (hfs' 6 (by decide))
  obtain ⟨t7, rfl, v7⟩ := one_int (c := c7) Try.underlying5 (hsome' 7 (by decide)) (by show List.take (Try.prog.cellsOf 5) _ = _; rw [Try.cells5]; rfl) (hfs' 7 (by decide))
  obtain ⟨t8, rfl, v8⟩ := one_int (c := c8) Try.underlying5 (hsome' 8 (by decide)) (by show List.take (Try.prog.cellsOf 5) _ = _; rw [Try.cells5]; rfl) (hfs' 8 (by decide))
  obtain ⟨t9, rfl, v9⟩ := one_int (c := c9) Try.underlying5 (hsome' 9 (by decide)) (by show List.take (Try.prog.cellsOf 5) _ = _; rw [Try.cells5]; rfl) (hfs' 9 (by decide))
  obtain ⟨t10, rfl, v10⟩ := one_int (c := c10) Try.underlying5 (hsome' 10 (by decide)) (by show List.take (Try.prog.cellsOf 5) _ = _; rw [Try.cells5]; rfl) (hfs' 10 (by decide))
  obtain ⟨t11, rfl, v11⟩ := one_int (c := c11) Try.underlying5 (hsome' 11 (by decide)) (by show List.take (Try.prog.cellsOf 5) _ = _; rw [Try.cells5]; rfl) (hfs' 11 (by decide))
  obtain ⟨t12, rfl, v12⟩ := one_int (c := c12) Try.underlying5 (hsome' 12 (by decide)) (by show List.take (Try.prog.cellsOf 5) _ = _; rw [Try.cells5]; rfl) (hfs' 12 (by decide))
  obtain ⟨t13, rfl, v13⟩ := one_int (c := c13) Try.underlying5 (hsome' 13 (by decide)) (by show List.take (Try.prog.cellsOf 5) _ = _; rw [Try.cells5]; rfl) (hfs' 13 (by decide))
  obtain ⟨t14, rfl, v14⟩ := one_int (c := c14) Try.underlying5 (hsome' 14 (by decide)) (by show List.take (Try.prog.cellsOf 5) _ = _; rw [Try.cells5]; rfl) (hfs' 14 (by decide))
  obtain ⟨t15, rfl, v15⟩ := one_int (c := c15) Try.underlying5 (hsome' 15 (by decide)) (by show List.take (Try.prog.cellsOf 5) _ = _; rw [Try.cells5]; rfl) (hfs' 15 (by decide))
  exact ⟨fun i => [t0, t1, t2, t3, t4, t5, t6, t7, t8, t9, t10, t11, t12, t13, t14, t15].getD i 0, bn, ms, r, s, u, rfl, w18⟩
end

end Go.Proofs.Qxb6617607a
