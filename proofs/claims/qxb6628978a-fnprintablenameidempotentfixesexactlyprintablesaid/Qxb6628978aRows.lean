/-
  No cell of these rows narrows 'for every input' (looked for: loops, veiled, ifaces, maps, wideKeys, modest, calm, conditions, laid).
  DERIVED. THE GIVEN ROWS OF THIS SEAT. 2 by the template 'for every input the law returns true; each argument reads behind the call as it read before'; 0 by the template 'total and deterministic' (their statements: Qxb6628978aTotals.lean).
  GIVEN WITH THE SEED: the statements are not yours to turn. If you find one false, say at which input.
  Laid BY PROGRAM, IN A SANDBOX (cutbox-rows.mjs): the forced cells as the released guide's own fill.sh prints them over the translation 944d3ab47568f5f2… (all of the seat's roots in one cut). By AI agents, Wed Nov 11 2026. No macro, syntax, notation, axiom, sorry.
-/
import Derived.Test.Qxb6628978aChecked
import GoSem.Claim
import GoSem.ClaimJoined
import GoSem.ClaimMapViews
import Derived.JoinedTies
import Derived.KernelRfl
namespace Go.Proofs.Qxb6628978a
/- THE CELL 'sum', in the pinned program and in every row, IS THE sha256 OF THE DUMP (.gsa) THAT Qxb6628978aProg.lean LOADS. Nothing in Lean hashes anything: it is a label: what it is worth is what the hold of that sum in a sandbox is worth. -/
noncomputable def Try.pinned : Pinned := { name := "qxb6628978a", sum := "944d3ab47568f5f274e75d5f8a43d8b05a0b20bead1f8c13aed962ce64cbadbb", checked := Try.checked }
namespace Rows
def none {H : Type} : Left H := { results := [], args := [] }

/-- 'zzlaws_gttp_b1.FnPrintableNameSplitsAtAnyCut': WHATEVER THE INPUT: true; the input reads as it did. -/
def fnPrintableNameSplitsAtAnyCutSpec : ChangeSpec := { name := "fnPrintableNameSplitsAtAnyCut", fn := fun _ => fun
  | [d1, d2] => { results := [.lit (.bool true)], args := [d1, d2] }
  | _ => none }
def fnPrintableNameSplitsAtAnyCutRow : OpenClaim := { program := "qxb6628978a", sum := "944d3ab47568f5f274e75d5f8a43d8b05a0b20bead1f8c13aed962ce64cbadbb", func := "example.com/throughline/throughline/zzlaws_gttp_b1.FnPrintableNameSplitsAtAnyCut", spec := "fnPrintableNameSplitsAtAnyCut", apart := false }
def FnPrintableNameSplitsAtAnyCutSaid : Prop := fnPrintableNameSplitsAtAnyCutRow.holds Try.pinned (OpenSpec.ofChange fnPrintableNameSplitsAtAnyCutSpec)

/-- ITS FALSE NEIGHBOUR: 'it returns false'. Refute it at one input. -/
def fnPrintableNameSplitsAtAnyCutWrong : ChangeSpec := { name := "fnPrintableNameSplitsAtAnyCut", fn := fun _ => fun
  | [d1, d2] => { results := [.lit (.bool false)], args := [d1, d2] }
  | _ => none }
def FnPrintableNameSplitsAtAnyCutWrongFalsely : Prop := fnPrintableNameSplitsAtAnyCutRow.holds Try.pinned (OpenSpec.ofChange fnPrintableNameSplitsAtAnyCutWrong)

/-- 'zzlaws_gttp_b1.FnPrintableNameIdempotentFixesExactlyPrintable': WHATEVER THE INPUT: true; the input reads as it did. -/
def fnPrintableNameIdempotentFixesExactlyPrintableSpec : ChangeSpec := { name := "fnPrintableNameIdempotentFixesExactlyPrintable", fn := fun _ => fun
  | [d] => { results := [.lit (.bool true)], args := [d] }
  | _ => none }
def fnPrintableNameIdempotentFixesExactlyPrintableRow : OpenClaim := { program := "qxb6628978a", sum := "944d3ab47568f5f274e75d5f8a43d8b05a0b20bead1f8c13aed962ce64cbadbb", func := "example.com/throughline/throughline/zzlaws_gttp_b1.FnPrintableNameIdempotentFixesExactlyPrintable", spec := "fnPrintableNameIdempotentFixesExactlyPrintable", apart := false }
def FnPrintableNameIdempotentFixesExactlyPrintableSaid : Prop := fnPrintableNameIdempotentFixesExactlyPrintableRow.holds Try.pinned (OpenSpec.ofChange fnPrintableNameIdempotentFixesExactlyPrintableSpec)

/-- ITS FALSE NEIGHBOUR: 'it returns false'. Refute it at one input. -/
def fnPrintableNameIdempotentFixesExactlyPrintableWrong : ChangeSpec := { name := "fnPrintableNameIdempotentFixesExactlyPrintable", fn := fun _ => fun
  | [d] => { results := [.lit (.bool false)], args := [d] }
  | _ => none }
def FnPrintableNameIdempotentFixesExactlyPrintableWrongFalsely : Prop := fnPrintableNameIdempotentFixesExactlyPrintableRow.holds Try.pinned (OpenSpec.ofChange fnPrintableNameIdempotentFixesExactlyPrintableWrong)

end Rows
end Go.Proofs.Qxb6628978a
