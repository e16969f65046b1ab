/-
  No cell of these rows narrows 'for every input' (looked for: loops, veiled, ifaces, maps, wideKeys, modest, calm, conditions, laid).
  DERIVED. THE GIVEN ROWS OF THIS SEAT. 2 by the template 'for every input the law returns true; each argument reads behind the call as it read before'; 0 by the template 'total and deterministic' (their statements: Qxb6617607aTotals.lean).
  GIVEN WITH THE SEED: the statements are not yours to turn. If you find one false, say at which input.
  Laid BY PROGRAM, IN A SANDBOX (cutbox-rows.mjs): the forced cells as the released guide's own fill.sh prints them over the translation f6be6c845072a910… (all of the seat's roots in one cut). By AI agents, Wed Nov 11 2026. No macro, syntax, notation, axiom, sorry.
-/
import Derived.Test.Qxb6617607aChecked
import GoSem.Claim
import GoSem.ClaimJoined
import GoSem.ClaimMapViews
import Derived.JoinedTies
import Derived.KernelRfl
namespace Go.Proofs.Qxb6617607a
/- THE CELL 'sum', in the pinned program and in every row, IS THE sha256 OF THE DUMP (.gsa) THAT Qxb6617607aProg.lean LOADS. Nothing in Lean hashes anything: it is a label: what it is worth is what the hold of that sum in a sandbox is worth. -/
noncomputable def Try.pinned : Pinned := { name := "qxb6617607a", sum := "f6be6c845072a91004dad12e86c0e4b695845104d989a4d9e6dfcc777fb08143", checked := Try.checked }
namespace Rows
def none {H : Type} : Left H := { results := [], args := [] }

/-- 'zzlaws_internal_protocol_b1.FnMissedByHeldAndFlags': WHATEVER THE INPUT: true; the input reads as it did. -/
def fnMissedByHeldAndFlagsSpec : ChangeSpec := { name := "fnMissedByHeldAndFlags", fn := fun _ => fun
  | [d1, d2] => { results := [.lit (.bool true)], args := [d1, d2] }
  | _ => none }
def fnMissedByHeldAndFlagsRow : OpenClaim := { program := "qxb6617607a", sum := "f6be6c845072a91004dad12e86c0e4b695845104d989a4d9e6dfcc777fb08143", func := "example.com/unisono/unisono/zzlaws_internal_protocol_b1.FnMissedByHeldAndFlags", spec := "fnMissedByHeldAndFlags", apart := false }
def FnMissedByHeldAndFlagsSaid : Prop := fnMissedByHeldAndFlagsRow.holds Try.pinned (OpenSpec.ofChange fnMissedByHeldAndFlagsSpec)

/-- ITS FALSE NEIGHBOUR: 'it returns false'. Refute it at one input. -/
def fnMissedByHeldAndFlagsWrong : ChangeSpec := { name := "fnMissedByHeldAndFlags", fn := fun _ => fun
  | [d1, d2] => { results := [.lit (.bool false)], args := [d1, d2] }
  | _ => none }
def FnMissedByHeldAndFlagsWrongFalsely : Prop := fnMissedByHeldAndFlagsRow.holds Try.pinned (OpenSpec.ofChange fnMissedByHeldAndFlagsWrong)

/-- 'zzlaws_internal_protocol_b1.FnMissedByRetirementThreshold': WHATEVER THE INPUT: true; the input reads as it did. -/
def fnMissedByRetirementThresholdSpec : ChangeSpec := { name := "fnMissedByRetirementThreshold", fn := fun _ => fun
  | [d1, d2, d3] => { results := [.lit (.bool true)], args := [d1, d2, d3] }
  | _ => none }
def fnMissedByRetirementThresholdRow : OpenClaim := { program := "qxb6617607a", sum := "f6be6c845072a91004dad12e86c0e4b695845104d989a4d9e6dfcc777fb08143", func := "example.com/unisono/unisono/zzlaws_internal_protocol_b1.FnMissedByRetirementThreshold", spec := "fnMissedByRetirementThreshold", apart := false }
def FnMissedByRetirementThresholdSaid : Prop := fnMissedByRetirementThresholdRow.holds Try.pinned (OpenSpec.ofChange fnMissedByRetirementThresholdSpec)

/-- ITS FALSE NEIGHBOUR: 'it returns false'. Refute it at one input. -/
def fnMissedByRetirementThresholdWrong : ChangeSpec := { name := "fnMissedByRetirementThreshold", fn := fun _ => fun
  | [d1, d2, d3] => { results := [.lit (.bool false)], args := [d1, d2, d3] }
  | _ => none }
def FnMissedByRetirementThresholdWrongFalsely : Prop := fnMissedByRetirementThresholdRow.holds Try.pinned (OpenSpec.ofChange fnMissedByRetirementThresholdWrong)

end Rows
end Go.Proofs.Qxb6617607a
