/-
  No cell of these rows narrows 'for every input' (looked for: loops, veiled, ifaces, maps, wideKeys, modest, calm, conditions, laid).
  DERIVED. THE GIVEN ROWS OF THIS SEAT. 2 by the template 'for every input the law returns true; each argument reads behind the call as it read before'; 0 by the template 'total and deterministic' (their statements: Qxb6629999aTotals.lean).
  GIVEN WITH THE SEED: the statements are not yours to turn. If you find one false, say at which input.
  Laid BY PROGRAM, IN A SANDBOX (cutbox-rows.mjs): the forced cells as the released guide's own fill.sh prints them over the translation ea27159c114a2ef0… (all of the seat's roots in one cut). By AI agents, Wed Nov 11 2026. No macro, syntax, notation, axiom, sorry.
-/
import Derived.Test.Qxb6629999aChecked
import GoSem.Claim
import GoSem.ClaimJoined
import GoSem.ClaimMapViews
import Derived.JoinedTies
import Derived.KernelRfl
namespace Go.Proofs.Qxb6629999a
/- THE CELL 'sum', in the pinned program and in every row, IS THE sha256 OF THE DUMP (.gsa) THAT Qxb6629999aProg.lean LOADS. Nothing in Lean hashes anything: it is a label: what it is worth is what the hold of that sum in a sandbox is worth. -/
noncomputable def Try.pinned : Pinned := { name := "qxb6629999a", sum := "ea27159c114a2ef09e9a21d73ab9e956072207800df08f7fd11afbce669be99e", checked := Try.checked }
namespace Rows
def none {H : Type} : Left H := { results := [], args := [] }

/-- 'zzlaws_internal_calendar_b1.FnMonthMatchesCivilAlgorithm': WHATEVER THE INPUT: true; the input reads as it did. -/
def fnMonthMatchesCivilAlgorithmSpec : ChangeSpec := { name := "fnMonthMatchesCivilAlgorithm", fn := fun _ => fun
  | [d] => { results := [.lit (.bool true)], args := [d] }
  | _ => none }
def fnMonthMatchesCivilAlgorithmRow : OpenClaim := { program := "qxb6629999a", sum := "ea27159c114a2ef09e9a21d73ab9e956072207800df08f7fd11afbce669be99e", func := "example.com/journeyman/journeyman/zzlaws_internal_calendar_b1.FnMonthMatchesCivilAlgorithm", spec := "fnMonthMatchesCivilAlgorithm", apart := false }
def FnMonthMatchesCivilAlgorithmSaid : Prop := fnMonthMatchesCivilAlgorithmRow.holds Try.pinned (OpenSpec.ofChange fnMonthMatchesCivilAlgorithmSpec)

/-- ITS FALSE NEIGHBOUR: 'it returns false'. Refute it at one input. -/
def fnMonthMatchesCivilAlgorithmWrong : ChangeSpec := { name := "fnMonthMatchesCivilAlgorithm", fn := fun _ => fun
  | [d] => { results := [.lit (.bool false)], args := [d] }
  | _ => none }
def FnMonthMatchesCivilAlgorithmWrongFalsely : Prop := fnMonthMatchesCivilAlgorithmRow.holds Try.pinned (OpenSpec.ofChange fnMonthMatchesCivilAlgorithmWrong)

/-- 'zzlaws_internal_calendar_b1.FnMonthShiftAndSteps': WHATEVER THE INPUT: true; the input reads as it did. -/
def fnMonthShiftAndStepsSpec : ChangeSpec := { name := "fnMonthShiftAndSteps", fn := fun _ => fun
  | [d] => { results := [.lit (.bool true)], args := [d] }
  | _ => none }
def fnMonthShiftAndStepsRow : OpenClaim := { program := "qxb6629999a", sum := "ea27159c114a2ef09e9a21d73ab9e956072207800df08f7fd11afbce669be99e", func := "example.com/journeyman/journeyman/zzlaws_internal_calendar_b1.FnMonthShiftAndSteps", spec := "fnMonthShiftAndSteps", apart := false }
def FnMonthShiftAndStepsSaid : Prop := fnMonthShiftAndStepsRow.holds Try.pinned (OpenSpec.ofChange fnMonthShiftAndStepsSpec)

/-- ITS FALSE NEIGHBOUR: 'it returns false'. Refute it at one input. -/
def fnMonthShiftAndStepsWrong : ChangeSpec := { name := "fnMonthShiftAndSteps", fn := fun _ => fun
  | [d] => { results := [.lit (.bool false)], args := [d] }
  | _ => none }
def FnMonthShiftAndStepsWrongFalsely : Prop := fnMonthShiftAndStepsRow.holds Try.pinned (OpenSpec.ofChange fnMonthShiftAndStepsWrong)

end Rows
end Go.Proofs.Qxb6629999a
