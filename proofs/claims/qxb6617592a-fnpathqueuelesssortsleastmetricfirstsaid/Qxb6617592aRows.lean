/-
  No cell of these rows narrows 'for every input' (looked for: loops, veiled, ifaces, maps, wideKeys, modest, calm, conditions, laid).
  DERIVED. THE GIVEN ROWS OF THIS SEAT. 1 by the template 'for every input the law returns true; each argument reads behind the call as it read before'; 0 by the template 'total and deterministic' (their statements: Qxb6617592aTotals.lean).
  GIVEN WITH THE SEED: the statements are not yours to turn. If you find one false, say at which input.
  Laid BY PROGRAM, IN A SANDBOX (cutbox-rows.mjs): the forced cells as the released guide's own fill.sh prints them over the translation bcfc93a489105aba… (all of the seat's roots in one cut). By AI agents, Wed Nov 11 2026. No macro, syntax, notation, axiom, sorry.
-/
import Derived.Test.Qxb6617592aChecked
import GoSem.Claim
import GoSem.ClaimJoined
import GoSem.ClaimMapViews
import Derived.JoinedTies
import Derived.KernelRfl
namespace Go.Proofs.Qxb6617592a
/- THE CELL 'sum', in the pinned program and in every row, IS THE sha256 OF THE DUMP (.gsa) THAT Qxb6617592aProg.lean LOADS. Nothing in Lean hashes anything: it is a label: what it is worth is what the hold of that sum in a sandbox is worth. -/
noncomputable def Try.pinned : Pinned := { name := "qxb6617592a", sum := "bcfc93a489105aba893ee22fa273ff462a681f2d0aadd853dc6f2eb31ad8b5dd", checked := Try.checked }
namespace Rows
def none {H : Type} : Left H := { results := [], args := [] }

/-- 'zzlaws_pkg_bier_b1.FnPathQueueLessSortsLeastMetricFirst': WHATEVER THE INPUT: true; the input reads as it did. -/
def fnPathQueueLessSortsLeastMetricFirstSpec : ChangeSpec := { name := "fnPathQueueLessSortsLeastMetricFirst", fn := fun _ => fun
  | [d1, d2] => { results := [.lit (.bool true)], args := [d1, d2] }
  | _ => none }
def fnPathQueueLessSortsLeastMetricFirstRow : OpenClaim := { program := "qxb6617592a", sum := "bcfc93a489105aba893ee22fa273ff462a681f2d0aadd853dc6f2eb31ad8b5dd", func := "example.com/bitfan/bitfan/zzlaws_pkg_bier_b1.FnPathQueueLessSortsLeastMetricFirst", spec := "fnPathQueueLessSortsLeastMetricFirst", apart := false }
def FnPathQueueLessSortsLeastMetricFirstSaid : Prop := fnPathQueueLessSortsLeastMetricFirstRow.holds Try.pinned (OpenSpec.ofChange fnPathQueueLessSortsLeastMetricFirstSpec)

/-- ITS FALSE NEIGHBOUR: 'it returns false'. Refute it at one input. -/
def fnPathQueueLessSortsLeastMetricFirstWrong : ChangeSpec := { name := "fnPathQueueLessSortsLeastMetricFirst", fn := fun _ => fun
  | [d1, d2] => { results := [.lit (.bool false)], args := [d1, d2] }
  | _ => none }
def FnPathQueueLessSortsLeastMetricFirstWrongFalsely : Prop := fnPathQueueLessSortsLeastMetricFirstRow.holds Try.pinned (OpenSpec.ofChange fnPathQueueLessSortsLeastMetricFirstWrong)

end Rows
end Go.Proofs.Qxb6617592a
