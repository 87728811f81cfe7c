/-
  NARROWER THAN 'FOR EVERY INPUT', by the rows' own cells (each row's printed sentence says how): FnNextPageLaterMarkerWins: maps · FnNextPageMarkersDifferOnlyAtMarker: maps.
  DERIVED. THE GIVEN ROWS OF THIS SEAT. 2 by the template 'for every input the law returns true; each argument reads behind the call as it read before'; 0 by the template 'total and deterministic' (their statements: Qxb6628944aTotals.lean).
  GIVEN WITH THE SEED: the statements are not yours to turn. If you find one false, say at which input.
  Laid BY PROGRAM, IN A SANDBOX (cutbox-rows.mjs): the forced cells as the released guide's own fill.sh prints them over the translation ab187db957c8f075… (all of the seat's roots in one cut). By AI agents, Wed Nov 11 2026. No macro, syntax, notation, axiom, sorry.
-/
import Derived.Test.Qxb6628944aChecked
import GoSem.Claim
import GoSem.ClaimJoined
import GoSem.ClaimMapViews
import Derived.JoinedTies
import Derived.KernelRfl
namespace Go.Proofs.Qxb6628944a
/- THE CELL 'sum', in the pinned program and in every row, IS THE sha256 OF THE DUMP (.gsa) THAT Qxb6628944aProg.lean LOADS. Nothing in Lean hashes anything: it is a label: what it is worth is what the hold of that sum in a sandbox is worth. -/
noncomputable def Try.pinned : Pinned := { name := "qxb6628944a", sum := "ab187db957c8f075d345fee2e33a41de6f9a0e3d02bb4108af834bec48f8917d", checked := Try.checked }
namespace Rows
def none {H : Type} : Left H := { results := [], args := [] }

/-- 'zzlaws_internal_filters_b1.FnNextPageLaterMarkerWins': WHATEVER THE INPUT: true; the input reads as it did. -/
def fnNextPageLaterMarkerWinsSpec : ChangeSpec := { name := "fnNextPageLaterMarkerWins", fn := fun _ => fun
  | [d1, d2, d3, d4] => { results := [.lit (.bool true)], args := [d1, d2, d3, d4] }
  | _ => none }
def fnNextPageLaterMarkerWinsRow : OpenClaim := { program := "qxb6628944a", sum := "ab187db957c8f075d345fee2e33a41de6f9a0e3d02bb4108af834bec48f8917d", func := "example.com/tallymark/tallymark/zzlaws_internal_filters_b1.FnNextPageLaterMarkerWins", spec := "fnNextPageLaterMarkerWins", maps := true, apart := false }
def FnNextPageLaterMarkerWinsSaid : Prop := fnNextPageLaterMarkerWinsRow.holds Try.pinned (OpenSpec.ofChange fnNextPageLaterMarkerWinsSpec)

/-- ITS FALSE NEIGHBOUR: 'it returns false'. Refute it at one input. -/
def fnNextPageLaterMarkerWinsWrong : ChangeSpec := { name := "fnNextPageLaterMarkerWins", fn := fun _ => fun
  | [d1, d2, d3, d4] => { results := [.lit (.bool false)], args := [d1, d2, d3, d4] }
  | _ => none }
def FnNextPageLaterMarkerWinsWrongFalsely : Prop := fnNextPageLaterMarkerWinsRow.holds Try.pinned (OpenSpec.ofChange fnNextPageLaterMarkerWinsWrong)

/-- 'zzlaws_internal_filters_b1.FnNextPageMarkersDifferOnlyAtMarker': WHATEVER THE INPUT: true; the input reads as it did. -/
def fnNextPageMarkersDifferOnlyAtMarkerSpec : ChangeSpec := { name := "fnNextPageMarkersDifferOnlyAtMarker", fn := fun _ => fun
  | [d1, d2, d3, d4] => { results := [.lit (.bool true)], args := [d1, d2, d3, d4] }
  | _ => none }
def fnNextPageMarkersDifferOnlyAtMarkerRow : OpenClaim := { program := "qxb6628944a", sum := "ab187db957c8f075d345fee2e33a41de6f9a0e3d02bb4108af834bec48f8917d", func := "example.com/tallymark/tallymark/zzlaws_internal_filters_b1.FnNextPageMarkersDifferOnlyAtMarker", spec := "fnNextPageMarkersDifferOnlyAtMarker", maps := true, apart := false }
def FnNextPageMarkersDifferOnlyAtMarkerSaid : Prop := fnNextPageMarkersDifferOnlyAtMarkerRow.holds Try.pinned (OpenSpec.ofChange fnNextPageMarkersDifferOnlyAtMarkerSpec)

/-- ITS FALSE NEIGHBOUR: 'it returns false'. Refute it at one input. -/
def fnNextPageMarkersDifferOnlyAtMarkerWrong : ChangeSpec := { name := "fnNextPageMarkersDifferOnlyAtMarker", fn := fun _ => fun
  | [d1, d2, d3, d4] => { results := [.lit (.bool false)], args := [d1, d2, d3, d4] }
  | _ => none }
def FnNextPageMarkersDifferOnlyAtMarkerWrongFalsely : Prop := fnNextPageMarkersDifferOnlyAtMarkerRow.holds Try.pinned (OpenSpec.ofChange fnNextPageMarkersDifferOnlyAtMarkerWrong)

end Rows
end Go.Proofs.Qxb6628944a
