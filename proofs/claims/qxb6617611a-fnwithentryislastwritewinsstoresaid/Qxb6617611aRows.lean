/-
  No cell of these rows narrows 'for every input' (looked for: loops, veiled, ifaces, maps, wideKeys, modest, calm, conditions, laid).
  DERIVED. THE GIVEN ROWS OF THIS SEAT. 1 by the template 'for every input the law returns true; each argument reads behind the call as it read before'; 0 by the template 'total and deterministic' (their statements: Qxb6617611aTotals.lean).
  GIVEN WITH THE SEED: the statements are not yours to turn. If you find one false, say at which input.
  Laid BY PROGRAM, IN A SANDBOX (cutbox-rows.mjs): the forced cells as the released guide's own fill.sh prints them over the translation f576ba1db0b6806b… (all of the seat's roots in one cut). By AI agents, Wed Nov 11 2026. No macro, syntax, notation, axiom, sorry.
-/
import Derived.Test.Qxb6617611aChecked
import GoSem.Claim
import GoSem.ClaimJoined
import GoSem.ClaimMapViews
import Derived.JoinedTies
import Derived.KernelRfl
namespace Go.Proofs.Qxb6617611a
/- THE CELL 'sum', in the pinned program and in every row, IS THE sha256 OF THE DUMP (.gsa) THAT Qxb6617611aProg.lean LOADS. Nothing in Lean hashes anything: it is a label: what it is worth is what the hold of that sum in a sandbox is worth. -/
noncomputable def Try.pinned : Pinned := { name := "qxb6617611a", sum := "f576ba1db0b6806b3baf0434e23c800a1d92da2676822c37891466d87706230f", checked := Try.checked }
namespace Rows
def none {H : Type} : Left H := { results := [], args := [] }

/-- 'zzlaws_internal_coordinator_b1.FnWithEntryIsLastWriteWinsStore': WHATEVER THE INPUT: true; the input reads as it did. -/
def fnWithEntryIsLastWriteWinsStoreSpec : ChangeSpec := { name := "fnWithEntryIsLastWriteWinsStore", fn := fun _ => fun
  | [d1, d2, d3] => { results := [.lit (.bool true)], args := [d1, d2, d3] }
  | _ => none }
def fnWithEntryIsLastWriteWinsStoreRow : OpenClaim := { program := "qxb6617611a", sum := "f576ba1db0b6806b3baf0434e23c800a1d92da2676822c37891466d87706230f", func := "example.com/ratify/ratify/zzlaws_internal_coordinator_b1.FnWithEntryIsLastWriteWinsStore", spec := "fnWithEntryIsLastWriteWinsStore", apart := false }
def FnWithEntryIsLastWriteWinsStoreSaid : Prop := fnWithEntryIsLastWriteWinsStoreRow.holds Try.pinned (OpenSpec.ofChange fnWithEntryIsLastWriteWinsStoreSpec)

/-- ITS FALSE NEIGHBOUR: 'it returns false'. Refute it at one input. -/
def fnWithEntryIsLastWriteWinsStoreWrong : ChangeSpec := { name := "fnWithEntryIsLastWriteWinsStore", fn := fun _ => fun
  | [d1, d2, d3] => { results := [.lit (.bool false)], args := [d1, d2, d3] }
  | _ => none }
def FnWithEntryIsLastWriteWinsStoreWrongFalsely : Prop := fnWithEntryIsLastWriteWinsStoreRow.holds Try.pinned (OpenSpec.ofChange fnWithEntryIsLastWriteWinsStoreWrong)

end Rows
end Go.Proofs.Qxb6617611a
