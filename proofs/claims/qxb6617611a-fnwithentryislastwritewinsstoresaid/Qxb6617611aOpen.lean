import Derived.Test.Qxb6617611aPlain
import Derived.ProofKit
import Derived.OpenShut
namespace Go.Proofs.Qxb6617611a
open Go.ChangeShapes Go.WideShapes Go.ChangeAt Go.RowKit
set_option linter.unusedVariables false

theorem Try.cells9 : Try.prog.cellsOf 9 = 1 := by kernel_rfl
theorem Try.cells25 : Try.prog.cellsOf 25 = 2 := by kernel_rfl

/-- The string in a cell. -/
def strIn : Option Value → ByteArray
  | some (.string s) => s
  | _ => ByteArray.empty

section
variable {H : Type} {enc : TypeId × Value → H} {w : World} {base : Nat} {spare : Nat → Bool} {held : Bool}

theorem one_string {n : Nat} {l : List Value} {x : Option (DataW H × List MemPlace)} {c : Value} (hx : x.isSome = true) (hl : l = [c]) (h : DataW.trod enc Try.prog w base spare held n 9 l = x) : ∃ s, c = .string s := by
  obtain ⟨y, rfl⟩ := Option.isSome_iff_exists.1 hx
  subst hl
  cases n with
  | zero => simp [DataW.trod] at h
  | succ n =>
    unfold DataW.trod at h
    rw [Try.underlying9] at h
    cases c <;> simp at h
    exact ⟨_, rfl⟩

theorem open_pair {n : Nat} {cs : List Value} {x : DataW H × List MemPlace} (h : DataW.trod enc Try.prog w base spare held n 25 cs = some x) : ∃ s t, cs = [.string s, .string t] := by
  obtain ⟨y0, y1, m, _, hlen, h0, h1⟩ := trod_struct2 Try.underlying25 h
  rw [Try.cells25] at hlen
  match cs, hlen with
  | [c0, c1], _ =>
    obtain ⟨s, rfl⟩ := one_string (c := c0) (by rfl) (by show List.take (Try.prog.cellsOf 9) _ = _; rw [Try.cells9]; rfl) h0
    obtain ⟨t, rfl⟩ := one_string (c := c1) (by rfl) (by show List.take (Try.prog.cellsOf 9) _ = _; rw [Try.cells9]; rfl) h1
    exact ⟨s, t, rfl⟩

theorem open_kvs {a : Option Addr} {len cap : Nat} {d : DataW H} {p : List MemPlace} (h : DataW.Trod enc Try.prog w base spare held 22 (.slice a len cap) d p) :
    len ≤ maxLen ∧ (len = 0 ∨ ∃ b off, a = some ⟨b, off, none⟩ ∧ b < w.heap.size ∧ ∃ K V : Nat → ByteArray, (∀ t, t < len → w.cell? ⟨b, off + t * 2, none⟩ = some (.string (K t))) ∧ ∀ t, t < len → w.cell? ⟨b, off + t * 2 + 1, none⟩ = some (.string (V t))) := by
  obtain ⟨fuel, hf⟩ := h
  rcases DataW.trod_slice Try.underlying22 hf with ⟨hcs, _⟩ | ⟨x, l, c, elems, rest, n, _, hcs, _, _, hl, hm, hlen, hel, _, _⟩
  · simp [Value.cells] at hcs
    obtain ⟨rfl, rfl, rfl⟩ := hcs
    exact ⟨Nat.zero_le _, .inl rfl⟩
  · simp [Value.cells] at hcs
    obtain ⟨rfl, rfl, rfl⟩ := hcs
    refine ⟨Nat.le_trans hl hm, ?_⟩
    rcases Nat.eq_zero_or_pos len with h0 | hpos
    · exact .inl h0
    right
    rw [Try.cells25] at hel
    have key : ∀ t, t < len → ∃ s1 s2, w.cell? (x.add (t * 2)) = some (.string s1) ∧ w.cell? ((x.add (t * 2)).add 1) = some (.string s2) := fun t ht => by
      have h1 := hel t ht
      have hs : (elems[t]?).isSome = true := by
        have : t < elems.length := by omega
        simp [this]
      obtain ⟨y, hy⟩ := Option.isSome_iff_exists.1 hs
      rw [hy] at h1
      obtain ⟨cs, hc, hd⟩ := Option.bind_eq_some_iff.1 h1
      obtain ⟨s1, s2, rfl⟩ := open_pair hd
      obtain ⟨_, _, hcell⟩ := World.cells?_some hc
      exact ⟨s1, s2, by simpa [Addr.add] using hcell 0 (by decide), by simpa using hcell 1 (by decide)⟩
    obtain ⟨b, off, spot⟩ := x
    obtain ⟨s1, s2, hc0, _⟩ := key 0 hpos
    have hspot : spot = none := by simpa [Addr.add] using World.cell?_spot hc0
    subst hspot
    have hb : b < w.heap.size := by
      have := block_lt_of_cell hc0
      simpa [Addr.add] using this
    refine ⟨b, off, rfl, hb, fun t => strIn (w.cell? ⟨b, off + t * 2, none⟩), fun t => strIn (w.cell? ⟨b, off + t * 2 + 1, none⟩), fun t ht => ?_, fun t ht => ?_⟩
    · obtain ⟨s1, s2, h1, h2⟩ := key t ht
      rw [Addr.add_lit] at h1
      simp [h1, strIn]
    · obtain ⟨s1, s2, h1, h2⟩ := key t ht
      rw [Addr.add_lit, Addr.add_lit] at h2
      simp [h2, strIn]
end

end Go.Proofs.Qxb6617611a
