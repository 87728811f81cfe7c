/-
  No cell of these rows narrows 'for every input' (looked for: loops, veiled, ifaces, maps, wideKeys, modest, calm, conditions, laid).
  DERIVED. THE GIVEN ROWS OF THIS SEAT. 2 by the template 'for every input the law returns true; each argument reads behind the call as it read before'; 0 by the template 'total and deterministic' (their statements: Qxb6630033aTotals.lean).
  GIVEN WITH THE SEED: the statements are not yours to turn. If you find one false, say at which input.
  Laid BY PROGRAM, IN A SANDBOX (cutbox-rows.mjs): the forced cells as the released guide's own fill.sh prints them over the translation 6370fb38569bbd57… (all of the seat's roots in one cut). By AI agents, Wed Nov 11 2026. No macro, syntax, notation, axiom, sorry.
-/
import Derived.Test.Qxb6630033aChecked
import GoSem.Claim
import GoSem.ClaimJoined
import GoSem.ClaimMapViews
import Derived.JoinedTies
import Derived.KernelRfl
namespace Go.Proofs.Qxb6630033a
/- THE CELL 'sum', in the pinned program and in every row, IS THE sha256 OF THE DUMP (.gsa) THAT Qxb6630033aProg.lean LOADS. Nothing in Lean hashes anything: it is a label: what it is worth is what the hold of that sum in a sandbox is worth. -/
noncomputable def Try.pinned : Pinned := { name := "qxb6630033a", sum := "6370fb38569bbd576f6d692edac85e92b2bddca29d2ad9dbe0bf666c7cb15b97", checked := Try.checked }
namespace Rows
def none {H : Type} : Left H := { results := [], args := [] }

/-- 'zzlaws_internal_protocol_b1.FnHearAgainChangesNothing': WHATEVER THE INPUT: true; the input reads as it did. -/
def fnHearAgainChangesNothingSpec : ChangeSpec := { name := "fnHearAgainChangesNothing", fn := fun _ => fun
  | [d1, d2, d3] => { results := [.lit (.bool true)], args := [d1, d2, d3] }
  | _ => none }
def fnHearAgainChangesNothingRow : OpenClaim := { program := "qxb6630033a", sum := "6370fb38569bbd576f6d692edac85e92b2bddca29d2ad9dbe0bf666c7cb15b97", func := "example.com/acordo/acordo/zzlaws_internal_protocol_b1.FnHearAgainChangesNothing", spec := "fnHearAgainChangesNothing", apart := false }
def FnHearAgainChangesNothingSaid : Prop := fnHearAgainChangesNothingRow.holds Try.pinned (OpenSpec.ofChange fnHearAgainChangesNothingSpec)

/-- ITS FALSE NEIGHBOUR: 'it returns false'. Refute it at one input. -/
def fnHearAgainChangesNothingWrong : ChangeSpec := { name := "fnHearAgainChangesNothing", fn := fun _ => fun
  | [d1, d2, d3] => { results := [.lit (.bool false)], args := [d1, d2, d3] }
  | _ => none }
def FnHearAgainChangesNothingWrongFalsely : Prop := fnHearAgainChangesNothingRow.holds Try.pinned (OpenSpec.ofChange fnHearAgainChangesNothingWrong)

/-- 'zzlaws_internal_protocol_b1.FnHearScriptFirstContradictionSticks': WHATEVER THE INPUT: true; the input reads as it did. -/
def fnHearScriptFirstContradictionSticksSpec : ChangeSpec := { name := "fnHearScriptFirstContradictionSticks", fn := fun _ => fun
  | [d1, d2, d3] => { results := [.lit (.bool true)], args := [d1, d2, d3] }
  | _ => none }
def fnHearScriptFirstContradictionSticksRow : OpenClaim := { program := "qxb6630033a", sum := "6370fb38569bbd576f6d692edac85e92b2bddca29d2ad9dbe0bf666c7cb15b97", func := "example.com/acordo/acordo/zzlaws_internal_protocol_b1.FnHearScriptFirstContradictionSticks", spec := "fnHearScriptFirstContradictionSticks", apart := false }
def FnHearScriptFirstContradictionSticksSaid : Prop := fnHearScriptFirstContradictionSticksRow.holds Try.pinned (OpenSpec.ofChange fnHearScriptFirstContradictionSticksSpec)

/-- ITS FALSE NEIGHBOUR: 'it returns false'. Refute it at one input. -/
def fnHearScriptFirstContradictionSticksWrong : ChangeSpec := { name := "fnHearScriptFirstContradictionSticks", fn := fun _ => fun
  | [d1, d2, d3] => { results := [.lit (.bool false)], args := [d1, d2, d3] }
  | _ => none }
def FnHearScriptFirstContradictionSticksWrongFalsely : Prop := fnHearScriptFirstContradictionSticksRow.holds Try.pinned (OpenSpec.ofChange fnHearScriptFirstContradictionSticksWrong)

end Rows
end Go.Proofs.Qxb6630033a
