/-
  No cell of these rows narrows 'for every input' (looked for: loops, veiled, ifaces, maps, wideKeys, modest, calm, conditions, laid).
  DERIVED. THE GIVEN ROWS OF THIS SEAT. 2 by the template 'for every input the law returns true; each argument reads behind the call as it read before'; 0 by the template 'total and deterministic' (their statements: Qxb6614836aTotals.lean).
  GIVEN WITH THE SEED: the statements are not yours to turn. If you find one false, say at which input.
  Laid BY PROGRAM, IN A SANDBOX (cutbox-rows.mjs): the forced cells as the released guide's own fill.sh prints them over the translation ae10d343f4280621… (all of the seat's roots in one cut). By AI agents, Wed Nov 11 2026. No macro, syntax, notation, axiom, sorry.
-/
import Derived.Test.Qxb6614836aChecked
import GoSem.Claim
import GoSem.ClaimJoined
import GoSem.ClaimMapViews
import Derived.JoinedTies
import Derived.KernelRfl
namespace Go.Proofs.Qxb6614836a
/- THE CELL 'sum', in the pinned program and in every row, IS THE sha256 OF THE DUMP (.gsa) THAT Qxb6614836aProg.lean LOADS. Nothing in Lean hashes anything: it is a label: what it is worth is what the hold of that sum in a sandbox is worth. -/
noncomputable def Try.pinned : Pinned := { name := "qxb6614836a", sum := "ae10d343f4280621e187de7760ead892b848ec073f527c13a51d724ed0e4c58c", checked := Try.checked }
namespace Rows
def none {H : Type} : Left H := { results := [], args := [] }

/-- 'zzlaws_internal_tls13_b1.FnAlertErrorUnwrapGivesBackWrapped': WHATEVER THE INPUT: true; the input reads as it did. -/
def fnAlertErrorUnwrapGivesBackWrappedSpec : ChangeSpec := { name := "fnAlertErrorUnwrapGivesBackWrapped", fn := fun _ => fun
  | [d1, d2] => { results := [.lit (.bool true)], args := [d1, d2] }
  | _ => none }
def fnAlertErrorUnwrapGivesBackWrappedRow : OpenClaim := { program := "qxb6614836a", sum := "ae10d343f4280621e187de7760ead892b848ec073f527c13a51d724ed0e4c58c", func := "example.com/braidkey/braidkey/zzlaws_internal_tls13_b1.FnAlertErrorUnwrapGivesBackWrapped", spec := "fnAlertErrorUnwrapGivesBackWrapped", apart := false }
def FnAlertErrorUnwrapGivesBackWrappedSaid : Prop := fnAlertErrorUnwrapGivesBackWrappedRow.holds Try.pinned (OpenSpec.ofChange fnAlertErrorUnwrapGivesBackWrappedSpec)

/-- ITS FALSE NEIGHBOUR: 'it returns false'. Refute it at one input. -/
def fnAlertErrorUnwrapGivesBackWrappedWrong : ChangeSpec := { name := "fnAlertErrorUnwrapGivesBackWrapped", fn := fun _ => fun
  | [d1, d2] => { results := [.lit (.bool false)], args := [d1, d2] }
  | _ => none }
def FnAlertErrorUnwrapGivesBackWrappedWrongFalsely : Prop := fnAlertErrorUnwrapGivesBackWrappedRow.holds Try.pinned (OpenSpec.ofChange fnAlertErrorUnwrapGivesBackWrappedWrong)

/-- 'zzlaws_internal_tls13_b1.FnAlertErrorUnwrapPeelsOneLayer': WHATEVER THE INPUT: true; the input reads as it did. -/
def fnAlertErrorUnwrapPeelsOneLayerSpec : ChangeSpec := { name := "fnAlertErrorUnwrapPeelsOneLayer", fn := fun _ => fun
  | [d1, d2, d3] => { results := [.lit (.bool true)], args := [d1, d2, d3] }
  | _ => none }
def fnAlertErrorUnwrapPeelsOneLayerRow : OpenClaim := { program := "qxb6614836a", sum := "ae10d343f4280621e187de7760ead892b848ec073f527c13a51d724ed0e4c58c", func := "example.com/braidkey/braidkey/zzlaws_internal_tls13_b1.FnAlertErrorUnwrapPeelsOneLayer", spec := "fnAlertErrorUnwrapPeelsOneLayer", apart := false }
def FnAlertErrorUnwrapPeelsOneLayerSaid : Prop := fnAlertErrorUnwrapPeelsOneLayerRow.holds Try.pinned (OpenSpec.ofChange fnAlertErrorUnwrapPeelsOneLayerSpec)

/-- ITS FALSE NEIGHBOUR: 'it returns false'. Refute it at one input. -/
def fnAlertErrorUnwrapPeelsOneLayerWrong : ChangeSpec := { name := "fnAlertErrorUnwrapPeelsOneLayer", fn := fun _ => fun
  | [d1, d2, d3] => { results := [.lit (.bool false)], args := [d1, d2, d3] }
  | _ => none }
def FnAlertErrorUnwrapPeelsOneLayerWrongFalsely : Prop := fnAlertErrorUnwrapPeelsOneLayerRow.holds Try.pinned (OpenSpec.ofChange fnAlertErrorUnwrapPeelsOneLayerWrong)

end Rows
end Go.Proofs.Qxb6614836a
