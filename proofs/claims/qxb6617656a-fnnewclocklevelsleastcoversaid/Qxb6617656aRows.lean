/-
  No cell of these rows narrows 'for every input' (looked for: loops, veiled, ifaces, maps, wideKeys, modest, calm, conditions, laid).
  DERIVED. THE GIVEN ROWS OF THIS SEAT. 1 by the template 'for every input the law returns true; each argument reads behind the call as it read before'; 0 by the template 'total and deterministic' (their statements: Qxb6617656aTotals.lean).
  GIVEN WITH THE SEED: the statements are not yours to turn. If you find one false, say at which input.
  Laid BY PROGRAM, IN A SANDBOX (cutbox-rows.mjs): the forced cells as the released guide's own fill.sh prints them over the translation c561ba0203564922… (all of the seat's roots in one cut). By AI agents, Wed Nov 11 2026. No macro, syntax, notation, axiom, sorry.
-/
import Derived.Test.Qxb6617656aChecked
import GoSem.Claim
import GoSem.ClaimJoined
import GoSem.ClaimMapViews
import Derived.JoinedTies
import Derived.KernelRfl
namespace Go.Proofs.Qxb6617656a
/- THE CELL 'sum', in the pinned program and in every row, IS THE sha256 OF THE DUMP (.gsa) THAT Qxb6617656aProg.lean LOADS. Nothing in Lean hashes anything: it is a label: what it is worth is what the hold of that sum in a sandbox is worth. -/
noncomputable def Try.pinned : Pinned := { name := "qxb6617656a", sum := "c561ba0203564922db43cc3b313e2d5414a8d5bebc34628b58416da13ff6f007", checked := Try.checked }
namespace Rows
def none {H : Type} : Left H := { results := [], args := [] }

/-- 'zzlaws_badpattern_b1.FnNewClockLevelsLeastCover': WHATEVER THE INPUT: true; the input reads as it did. -/
def fnNewClockLevelsLeastCoverSpec : ChangeSpec := { name := "fnNewClockLevelsLeastCover", fn := fun _ => fun
  | [d] => { results := [.lit (.bool true)], args := [d] }
  | _ => none }
def fnNewClockLevelsLeastCoverRow : OpenClaim := { program := "qxb6617656a", sum := "c561ba0203564922db43cc3b313e2d5414a8d5bebc34628b58416da13ff6f007", func := "example.com/antecedent/antecedent/zzlaws_badpattern_b1.FnNewClockLevelsLeastCover", spec := "fnNewClockLevelsLeastCover", apart := false }
def FnNewClockLevelsLeastCoverSaid : Prop := fnNewClockLevelsLeastCoverRow.holds Try.pinned (OpenSpec.ofChange fnNewClockLevelsLeastCoverSpec)

/-- ITS FALSE NEIGHBOUR: 'it returns false'. Refute it at one input. -/
def fnNewClockLevelsLeastCoverWrong : ChangeSpec := { name := "fnNewClockLevelsLeastCover", fn := fun _ => fun
  | [d] => { results := [.lit (.bool false)], args := [d] }
  | _ => none }
def FnNewClockLevelsLeastCoverWrongFalsely : Prop := fnNewClockLevelsLeastCoverRow.holds Try.pinned (OpenSpec.ofChange fnNewClockLevelsLeastCoverWrong)

end Rows
end Go.Proofs.Qxb6617656a
