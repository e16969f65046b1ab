import Derived.Test.Qxb6617607aRows
import Derived.WalkKit
import Derived.WalkSpells
import Derived.WalkLawsBesides
import Derived.Deep.QuietTactic
import Derived.BigQuiet
namespace Go.Proofs.Qxb6617607a
open Go.RowKit
set_option linter.unusedVariables false

/-- What 'missedBy' answers: fr, cr: the absence's from and crashedAt; ow, hn: oneWay, hearsNone; r: retiredAt; s, u: sentFirst, unacked. -/
def mb (fr cr : Int) (ow hn : Bool) (r : Int) (s u : Bool) : Bool :=
  if ow = false ∧ cr = 0 then decide (r = 0 ∨ fr ≤ r)
  else if r = 0 then (s || (hn && u))
  else decide (s = true ∧ 0 < cr ∧ cr ≤ r)

set_option maxRecDepth 1000000 in
set_option maxHeartbeats 1000000 in
theorem by1 (hn s u : Bool) (b : Nat) (fr cr : Int) (T : Nat → Int) (bn ms r : Int) (w : World) (hb : b < w.heap.size)
    (h0 : w.cell? ⟨b, 0, none⟩ = some (.int .i64 fr)) (h2 : w.cell? ⟨b, 2, none⟩ = some (.int .i64 cr)) (h7 : w.cell? ⟨b, 7, none⟩ = some (.bool false)) (h8 : w.cell? ⟨b, 8, none⟩ = some (.bool hn)) (c1 : (cr == 0) = true) (c2 : (r == 0) = true) :
    Calls Try.prog 7 #[.pointer (some ⟨b, 0, none⟩), .agg #[.int .u8 (T 0), .int .u8 (T 1), .int .u8 (T 2), .int .u8 (T 3), .int .u8 (T 4), .int .u8 (T 5), .int .u8 (T 6), .int .u8 (T 7), .int .u8 (T 8), .int .u8 (T 9), .int .u8 (T 10), .int .u8 (T 11), .int .u8 (T 12), .int .u8 (T 13), .int .u8 (T 14), .int .u8 (T 15), .int .u32 bn, .int .i64 ms, .int .i64 r, .bool s, .bool u]] w fun e w' => e = .returned (.bool true) ∧ Below w.heap.size w w' := by
  go_enter Try.func7, Try.ntmps7
  go_wp2
  go_quiet (fail)
  go_wp2
  go_ret
  exact ⟨rfl, by repeat (first | exact Below.refl _ _ | apply below_drewN | refine Below.alloc ?_ (by simp) _)⟩

set_option maxRecDepth 1000000 in
set_option maxHeartbeats 1000000 in
theorem by2 (hn s u : Bool) (b : Nat) (fr cr : Int) (T : Nat → Int) (bn ms r : Int) (w : World) (hb : b < w.heap.size)
    (h0 : w.cell? ⟨b, 0, none⟩ = some (.int .i64 fr)) (h2 : w.cell? ⟨b, 2, none⟩ = some (.int .i64 cr)) (h7 : w.cell? ⟨b, 7, none⟩ = some (.bool false)) (h8 : w.cell? ⟨b, 8, none⟩ = some (.bool hn)) (c1 : (cr == 0) = true) (c2 : (r == 0) = false) :
    Calls Try.prog 7 #[.pointer (some ⟨b, 0, none⟩), .agg #[.int .u8 (T 0), .int .u8 (T 1), .int .u8 (T 2), .int .u8 (T 3), .int .u8 (T 4), .int .u8 (T 5), .int .u8 (T 6), .int .u8 (T 7), .int .u8 (T 8), .int .u8 (T 9), .int .u8 (T 10), .int .u8 (T 11), .int .u8 (T 12), .int .u8 (T 13), .int .u8 (T 14), .int .u8 (T 15), .int .u32 bn, .int .i64 ms, .int .i64 r, .bool s, .bool u]] w fun e w' => e = .returned (.bool (decide (fr ≤ r))) ∧ Below w.heap.size w w' := by
  go_enter Try.func7, Try.ntmps7
  go_wp2
  go_quiet (fail)
  go_wp2
  go_ret
  exact ⟨rfl, by repeat (first | exact Below.refl _ _ | apply below_drewN | refine Below.alloc ?_ (by simp) _)⟩

set_option maxRecDepth 1000000 in
set_option maxHeartbeats 1000000 in
theorem by3_false_true_hn (hn u : Bool) (b : Nat) (fr cr : Int) (T : Nat → Int) (bn ms r : Int) (w : World) (hb : b < w.heap.size)
    (h0 : w.cell? ⟨b, 0, none⟩ = some (.int .i64 fr)) (h2 : w.cell? ⟨b, 2, none⟩ = some (.int .i64 cr)) (h7 : w.cell? ⟨b, 7, none⟩ = some (.bool false)) (h8 : w.cell? ⟨b, 8, none⟩ = some (.bool hn)) (c1 : (cr == 0) = false) (c2 : (r == 0) = true) :
    Calls Try.prog 7 #[.pointer (some ⟨b, 0, none⟩), .agg #[.int .u8 (T 0), .int .u8 (T 1), .int .u8 (T 2), .int .u8 (T 3), .int .u8 (T 4), .int .u8 (T 5), .int .u8 (T 6), .int .u8 (T 7), .int .u8 (T 8), .int .u8 (T 9), .int .u8 (T 10), .int .u8 (T 11), .int .u8 (T 12), .int .u8 (T 13), .int .u8 (T 14), .int .u8 (T 15), .int .u32 bn, .int .i64 ms, .int .i64 r, .bool true, .bool u]] w fun e w' => e = .returned (.bool true) ∧ Below w.heap.size w w' := by
  go_enter Try.func7, Try.ntmps7
  go_wp2
  go_ret
  exact ⟨rfl, by repeat (first | exact Below.refl _ _ | apply below_drewN | refine Below.alloc ?_ (by simp) _)⟩

set_option maxRecDepth 1000000 in
set_option maxHeartbeats 1000000 in
theorem by3_false_false_false (u : Bool) (b : Nat) (fr cr : Int) (T : Nat → Int) (bn ms r : Int) (w : World) (hb : b < w.heap.size)
    (h0 : w.cell? ⟨b, 0, none⟩ = some (.int .i64 fr)) (h2 : w.cell? ⟨b, 2, none⟩ = some (.int .i64 cr)) (h7 : w.cell? ⟨b, 7, none⟩ = some (.bool false)) (h8 : w.cell? ⟨b, 8, none⟩ = some (.bool false)) (c1 : (cr == 0) = false) (c2 : (r == 0) = true) :
    Calls Try.prog 7 #[.pointer (some ⟨b, 0, none⟩), .agg #[.int .u8 (T 0), .int .u8 (T 1), .int .u8 (T 2), .int .u8 (T 3), .int .u8 (T 4), .int .u8 (T 5), .int .u8 (T 6), .int .u8 (T 7), .int .u8 (T 8), .int .u8 (T 9), .int .u8 (T 10), .int .u8 (T 11), .int .u8 (T 12), .int .u8 (T 13), .int .u8 (T 14), .int .u8 (T 15), .int .u32 bn, .int .i64 ms, .int .i64 r, .bool false, .bool u]] w fun e w' => e = .returned (.bool false) ∧ Below w.heap.size w w' := by
  go_enter Try.func7, Try.ntmps7
  go_wp2
  go_ret
  exact ⟨rfl, by repeat (first | exact Below.refl _ _ | apply below_drewN | refine Below.alloc ?_ (by simp) _)⟩

set_option maxRecDepth 1000000 in
set_option maxHeartbeats 1000000 in
theorem by3_false_false_true (u : Bool) (b : Nat) (fr cr : Int) (T : Nat → Int) (bn ms r : Int) (w : World) (hb : b < w.heap.size)
    (h0 : w.cell? ⟨b, 0, none⟩ = some (.int .i64 fr)) (h2 : w.cell? ⟨b, 2, none⟩ = some (.int .i64 cr)) (h7 : w.cell? ⟨b, 7, none⟩ = some (.bool false)) (h8 : w.cell? ⟨b, 8, none⟩ = some (.bool true)) (c1 : (cr == 0) = false) (c2 : (r == 0) = true) :
    Calls Try.prog 7 #[.pointer (some ⟨b, 0, none⟩), .agg #[.int .u8 (T 0), .int .u8 (T 1), .int .u8 (T 2), .int .u8 (T 3), .int .u8 (T 4), .int .u8 (T 5), .int .u8 (T 6), .int .u8 (T 7), .int .u8 (T 8), .int .u8 (T 9), .int .u8 (T 10), .int .u8 (T 11), .int .u8 (T 12), .int .u8 (T 13), .int .u8 (T 14), .int .u8 (T 15), .int .u32 bn, .int .i64 ms, .int .i64 r, .bool false, .bool u]] w fun e w' => e = .returned (.bool u) ∧ Below w.heap.size w w' := by
  go_enter Try.func7, Try.ntmps7
  go_wp2
  go_ret
  exact ⟨rfl, by repeat (first | exact Below.refl _ _ | apply below_drewN | refine Below.alloc ?_ (by simp) _)⟩

set_option maxRecDepth 1000000 in
set_option maxHeartbeats 1000000 in
theorem by4_false (hn u : Bool) (b : Nat) (fr cr : Int) (T : Nat → Int) (bn ms r : Int) (w : World) (hb : b < w.heap.size)
    (h0 : w.cell? ⟨b, 0, none⟩ = some (.int .i64 fr)) (h2 : w.cell? ⟨b, 2, none⟩ = some (.int .i64 cr)) (h7 : w.cell? ⟨b, 7, none⟩ = some (.bool false)) (h8 : w.cell? ⟨b, 8, none⟩ = some (.bool hn)) (c1 : (cr == 0) = false) (c2 : (r == 0) = false) :
    Calls Try.prog 7 #[.pointer (some ⟨b, 0, none⟩), .agg #[.int .u8 (T 0), .int .u8 (T 1), .int .u8 (T 2), .int .u8 (T 3), .int .u8 (T 4), .int .u8 (T 5), .int .u8 (T 6), .int .u8 (T 7), .int .u8 (T 8), .int .u8 (T 9), .int .u8 (T 10), .int .u8 (T 11), .int .u8 (T 12), .int .u8 (T 13), .int .u8 (T 14), .int .u8 (T 15), .int .u32 bn, .int .i64 ms, .int .i64 r, .bool false, .bool u]] w fun e w' => e = .returned (.bool false) ∧ Below w.heap.size w w' := by
  go_enter Try.func7, Try.ntmps7
  go_wp2
  go_quiet (fail)
  go_wp2
  go_ret
  exact ⟨rfl, by repeat (first | exact Below.refl _ _ | apply below_drewN | refine Below.alloc ?_ (by simp) _)⟩

set_option maxRecDepth 1000000 in
set_option maxHeartbeats 1000000 in
theorem by5_false (hn u : Bool) (b : Nat) (fr cr : Int) (T : Nat → Int) (bn ms r : Int) (w : World) (hb : b < w.heap.size)
    (h0 : w.cell? ⟨b, 0, none⟩ = some (.int .i64 fr)) (h2 : w.cell? ⟨b, 2, none⟩ = some (.int .i64 cr)) (h7 : w.cell? ⟨b, 7, none⟩ = some (.bool false)) (h8 : w.cell? ⟨b, 8, none⟩ = some (.bool hn)) (c1 : (cr == 0) = false) (c2 : (r == 0) = false) (c3 : decide (0 < cr) = false) :
    Calls Try.prog 7 #[.pointer (some ⟨b, 0, none⟩), .agg #[.int .u8 (T 0), .int .u8 (T 1), .int .u8 (T 2), .int .u8 (T 3), .int .u8 (T 4), .int .u8 (T 5), .int .u8 (T 6), .int .u8 (T 7), .int .u8 (T 8), .int .u8 (T 9), .int .u8 (T 10), .int .u8 (T 11), .int .u8 (T 12), .int .u8 (T 13), .int .u8 (T 14), .int .u8 (T 15), .int .u32 bn, .int .i64 ms, .int .i64 r, .bool true, .bool u]] w fun e w' => e = .returned (.bool false) ∧ Below w.heap.size w w' := by
  go_enter Try.func7, Try.ntmps7
  go_wp2
  go_quiet (fail)
  go_wp2
  go_ret
  exact ⟨rfl, by repeat (first | exact Below.refl _ _ | apply below_drewN | refine Below.alloc ?_ (by simp) _)⟩

set_option maxRecDepth 1000000 in
set_option maxHeartbeats 1000000 in
theorem by6_false (hn u : Bool) (b : Nat) (fr cr : Int) (T : Nat → Int) (bn ms r : Int) (w : World) (hb : b < w.heap.size)
    (h0 : w.cell? ⟨b, 0, none⟩ = some (.int .i64 fr)) (h2 : w.cell? ⟨b, 2, none⟩ = some (.int .i64 cr)) (h7 : w.cell? ⟨b, 7, none⟩ = some (.bool false)) (h8 : w.cell? ⟨b, 8, none⟩ = some (.bool hn)) (c1 : (cr == 0) = false) (c2 : (r == 0) = false) (c3 : 0 < cr) :
    Calls Try.prog 7 #[.pointer (some ⟨b, 0, none⟩), .agg #[.int .u8 (T 0), .int .u8 (T 1), .int .u8 (T 2), .int .u8 (T 3), .int .u8 (T 4), .int .u8 (T 5), .int .u8 (T 6), .int .u8 (T 7), .int .u8 (T 8), .int .u8 (T 9), .int .u8 (T 10), .int .u8 (T 11), .int .u8 (T 12), .int .u8 (T 13), .int .u8 (T 14), .int .u8 (T 15), .int .u32 bn, .int .i64 ms, .int .i64 r, .bool true, .bool u]] w fun e w' => e = .returned (.bool (decide (cr ≤ r))) ∧ Below w.heap.size w w' := by
  go_enter Try.func7, Try.ntmps7
  go_wp2
  go_quiet (fail)
  go_wp2
  go_ret
  exact ⟨rfl, by repeat (first | exact Below.refl _ _ | apply below_drewN | refine Below.alloc ?_ (by simp) _)⟩

set_option maxRecDepth 1000000 in
set_option maxHeartbeats 1000000 in
theorem by3_true_true_hn (hn u : Bool) (b : Nat) (fr cr : Int) (T : Nat → Int) (bn ms r : Int) (w : World) (hb : b < w.heap.size)
    (h0 : w.cell? ⟨b, 0, none⟩ = some (.int .i64 fr)) (h2 : w.cell? ⟨b, 2, none⟩ = some (.int .i64 cr)) (h7 : w.cell? ⟨b, 7, none⟩ = some (.bool true)) (h8 : w.cell? ⟨b, 8, none⟩ = some (.bool hn)) (c2 : (r == 0) = true) :
    Calls Try.prog 7 #[.pointer (some ⟨b, 0, none⟩), .agg #[.int .u8 (T 0), .int .u8 (T 1), .int .u8 (T 2), .int .u8 (T 3), .int .u8 (T 4), .int .u8 (T 5), .int .u8 (T 6), .int .u8 (T 7), .int .u8 (T 8), .int .u8 (T 9), .int .u8 (T 10), .int .u8 (T 11), .int .u8 (T 12), .int .u8 (T 13), .int .u8 (T 14), .int .u8 (T 15), .int .u32 bn, .int .i64 ms, .int .i64 r, .bool true, .bool u]] w fun e w' => e = .returned (.bool true) ∧ Below w.heap.size w w' := by
  go_enter Try.func7, Try.ntmps7
  go_wp2
  go_ret
  exact ⟨rfl, by repeat (first | exact Below.refl _ _ | apply below_drewN | refine Below.alloc ?_ (by simp) _)⟩

set_option maxRecDepth 1000000 in
set_option maxHeartbeats 1000000 in
theorem by3_true_false_false (u : Bool) (b : Nat) (fr cr : Int) (T : Nat → Int) (bn ms r : Int) (w : World) (hb : b < w.heap.size)
    (h0 : w.cell? ⟨b, 0, none⟩ = some (.int .i64 fr)) (h2 : w.cell? ⟨b, 2, none⟩ = some (.int .i64 cr)) (h7 : w.cell? ⟨b, 7, none⟩ = some (.bool true)) (h8 : w.cell? ⟨b, 8, none⟩ = some (.bool false)) (c2 : (r == 0) = true) :
    Calls Try.prog 7 #[.pointer (some ⟨b, 0, none⟩), .agg #[.int .u8 (T 0), .int .u8 (T 1), .int .u8 (T 2), .int .u8 (T 3), .int .u8 (T 4), .int .u8 (T 5), .int .u8 (T 6), .int .u8 (T 7), .int .u8 (T 8), .int .u8 (T 9), .int .u8 (T 10), .int .u8 (T 11), .int .u8 (T 12), .int .u8 (T 13), .int .u8 (T 14), .int .u8 (T 15), .int .u32 bn, .int .i64 ms, .int .i64 r, .bool false, .bool u]] w fun e w' => e = .returned (.bool false) ∧ Below w.heap.size w w' := by
  go_enter Try.func7, Try.ntmps7
  go_wp2
  go_ret
  exact ⟨rfl, by repeat (first | exact Below.refl _ _ | apply below_drewN | refine Below.alloc ?_ (by simp) _)⟩

set_option maxRecDepth 1000000 in
set_option maxHeartbeats 1000000 in
theorem by3_true_false_true (u : Bool) (b : Nat) (fr cr : Int) (T : Nat → Int) (bn ms r : Int) (w : World) (hb : b < w.heap.size)
    (h0 : w.cell? ⟨b, 0, none⟩ = some (.int .i64 fr)) (h2 : w.cell? ⟨b, 2, none⟩ = some (.int .i64 cr)) (h7 : w.cell? ⟨b, 7, none⟩ = some (.bool true)) (h8 : w.cell? ⟨b, 8, none⟩ = some (.bool true)) (c2 : (r == 0) = true) :
    Calls Try.prog 7 #[.pointer (some ⟨b, 0, none⟩), .agg #[.int .u8 (T 0), .int .u8 (T 1), .int .u8 (T 2), .int .u8 (T 3), .int .u8 (T 4), .int .u8 (T 5), .int .u8 (T 6), .int .u8 (T 7), .int .u8 (T 8), .int .u8 (T 9), .int .u8 (T 10), .int .u8 (T 11), .int .u8 (T 12), .int .u8 (T 13), .int .u8 (T 14), .int .u8 (T 15), .int .u32 bn, .int .i64 ms, .int .i64 r, .bool false, .bool u]] w fun e w' => e = .returned (.bool u) ∧ Below w.heap.size w w' := by
  go_enter Try.func7, Try.ntmps7
  go_wp2
  go_ret
  exact ⟨rfl, by repeat (first | exact Below.refl _ _ | apply below_drewN | refine Below.alloc ?_ (by simp) _)⟩

set_option maxRecDepth 1000000 in
set_option maxHeartbeats 1000000 in
theorem by4_true (hn u : Bool) (b : Nat) (fr cr : Int) (T : Nat → Int) (bn ms r : Int) (w : World) (hb : b < w.heap.size)
    (h0 : w.cell? ⟨b, 0, none⟩ = some (.int .i64 fr)) (h2 : w.cell? ⟨b, 2, none⟩ = some (.int .i64 cr)) (h7 : w.cell? ⟨b, 7, none⟩ = some (.bool true)) (h8 : w.cell? ⟨b, 8, none⟩ = some (.bool hn)) (c2 : (r == 0) = false) :
    Calls Try.prog 7 #[.pointer (some ⟨b, 0, none⟩), .agg #[.int .u8 (T 0), .int .u8 (T 1), .int .u8 (T 2), .int .u8 (T 3), .int .u8 (T 4), .int .u8 (T 5), .int .u8 (T 6), .int .u8 (T 7), .int .u8 (T 8), .int .u8 (T 9), .int .u8 (T 10), .int .u8 (T 11), .int .u8 (T 12), .int .u8 (T 13), .int .u8 (T 14), .int .u8 (T 15), .int .u32 bn, .int .i64 ms, .int .i64 r, .bool false, .bool u]] w fun e w' => e = .returned (.bool false) ∧ Below w.heap.size w w' := by
  go_enter Try.func7, Try.ntmps7
  go_wp2
  go_quiet (fail)
  go_wp2
  go_ret
  exact ⟨rfl, by repeat (first | exact Below.refl _ _ | apply below_drewN | refine Below.alloc ?_ (by simp) _)⟩

set_option maxRecDepth 1000000 in
set_option maxHeartbeats 1000000 in
theorem by5_true (hn u : Bool) (b : Nat) (fr cr : Int) (T : Nat → Int) (bn ms r : Int) (w : World) (hb : b < w.heap.size)
    (h0 : w.cell? ⟨b, 0, none⟩ = some (.int .i64 fr)) (h2 : w.cell? ⟨b, 2, none⟩ = some (.int .i64 cr)) (h7 : w.cell? ⟨b, 7, none⟩ = some (.bool true)) (h8 : w.cell? ⟨b, 8, none⟩ = some (.bool hn)) (c2 : (r == 0) = false) (c3 : decide (0 < cr) = false) :
    Calls Try.prog 7 #[.pointer (some ⟨b, 0, none⟩), .agg #[.int .u8 (T 0), .int .u8 (T 1), .int .u8 (T 2), .int .u8 (T 3), .int .u8 (T 4), .int .u8 (T 5), .int .u8 (T 6), .int .u8 (T 7), .int .u8 (T 8), .int .u8 (T 9), .int .u8 (T 10), .int .u8 (T 11), .int .u8 (T 12), .int .u8 (T 13), .int .u8 (T 14), .int .u8 (T 15), .int .u32 bn, .int .i64 ms, .int .i64 r, .bool true, .bool u]] w fun e w' => e = .returned (.bool false) ∧ Below w.heap.size w w' := by
  go_enter Try.func7, Try.ntmps7
  go_wp2
  go_quiet (fail)
  go_wp2
  go_ret
  exact ⟨rfl, by repeat (first | exact Below.refl _ _ | apply below_drewN | refine Below.alloc ?_ (by simp) _)⟩

set_option maxRecDepth 1000000 in
set_option maxHeartbeats 1000000 in
theorem by6_true (hn u : Bool) (b : Nat) (fr cr : Int) (T : Nat → Int) (bn ms r : Int) (w : World) (hb : b < w.heap.size)
    (h0 : w.cell? ⟨b, 0, none⟩ = some (.int .i64 fr)) (h2 : w.cell? ⟨b, 2, none⟩ = some (.int .i64 cr)) (h7 : w.cell? ⟨b, 7, none⟩ = some (.bool true)) (h8 : w.cell? ⟨b, 8, none⟩ = some (.bool hn)) (c2 : (r == 0) = false) (c3 : 0 < cr) :
    Calls Try.prog 7 #[.pointer (some ⟨b, 0, none⟩), .agg #[.int .u8 (T 0), .int .u8 (T 1), .int .u8 (T 2), .int .u8 (T 3), .int .u8 (T 4), .int .u8 (T 5), .int .u8 (T 6), .int .u8 (T 7), .int .u8 (T 8), .int .u8 (T 9), .int .u8 (T 10), .int .u8 (T 11), .int .u8 (T 12), .int .u8 (T 13), .int .u8 (T 14), .int .u8 (T 15), .int .u32 bn, .int .i64 ms, .int .i64 r, .bool true, .bool u]] w fun e w' => e = .returned (.bool (decide (cr ≤ r))) ∧ Below w.heap.size w w' := by
  go_enter Try.func7, Try.ntmps7
  go_wp2
  go_quiet (fail)
  go_wp2
  go_ret
  exact ⟨rfl, by repeat (first | exact Below.refl _ _ | apply below_drewN | refine Below.alloc ?_ (by simp) _)⟩


end Go.Proofs.Qxb6617607a
