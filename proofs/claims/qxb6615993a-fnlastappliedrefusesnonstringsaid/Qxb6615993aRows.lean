/-
  No cell of these rows narrows 'for every input' (looked for: loops, veiled, ifaces, maps, wideKeys, modest, calm, conditions, laid).
  DERIVED. THE GIVEN ROWS OF THIS SEAT. 3 by the template 'for every input the law returns true; each argument reads behind the call as it read before'; 0 by the template 'total and deterministic' (their statements: Qxb6615993aTotals.lean).
  GIVEN WITH THE SEED: the statements are not yours to turn. If you find one false, say at which input.
  Laid BY PROGRAM, IN A SANDBOX (cutbox-rows.mjs): the forced cells as the released guide's own fill.sh prints them over the translation 049c592f0643fb0a… (all of the seat's roots in one cut). By AI agents, Wed Nov 11 2026. No macro, syntax, notation, axiom, sorry.
-/
import Derived.Test.Qxb6615993aChecked
import GoSem.Claim
import GoSem.ClaimJoined
import GoSem.ClaimMapViews
import Derived.JoinedTies
import Derived.KernelRfl
namespace Go.Proofs.Qxb6615993a
/- THE CELL 'sum', in the pinned program and in every row, IS THE sha256 OF THE DUMP (.gsa) THAT Qxb6615993aProg.lean LOADS. Nothing in Lean hashes anything: it is a label: what it is worth is what the hold of that sum in a sandbox is worth. -/
noncomputable def Try.pinned : Pinned := { name := "qxb6615993a", sum := "049c592f0643fb0a5327751c10a4b0842491532f35af2555006523702dc4e36b", checked := Try.checked }
namespace Rows
def none {H : Type} : Left H := { results := [], args := [] }

/-- 'zzlaws_root_b1.FnLastAppliedLastWriteWins': WHATEVER THE INPUT: true; the input reads as it did. -/
def fnLastAppliedLastWriteWinsSpec : ChangeSpec := { name := "fnLastAppliedLastWriteWins", fn := fun _ => fun
  | [d1, d2, d3, d4] => { results := [.lit (.bool true)], args := [d1, d2, d3, d4] }
  | _ => none }
def fnLastAppliedLastWriteWinsRow : OpenClaim := { program := "qxb6615993a", sum := "049c592f0643fb0a5327751c10a4b0842491532f35af2555006523702dc4e36b", func := "example.com/fieldweave/fieldweave/zzlaws_root_b1.FnLastAppliedLastWriteWins", spec := "fnLastAppliedLastWriteWins", apart := false }
def FnLastAppliedLastWriteWinsSaid : Prop := fnLastAppliedLastWriteWinsRow.holds Try.pinned (OpenSpec.ofChange fnLastAppliedLastWriteWinsSpec)

/-- ITS FALSE NEIGHBOUR: 'it returns false'. Refute it at one input. -/
def fnLastAppliedLastWriteWinsWrong : ChangeSpec := { name := "fnLastAppliedLastWriteWins", fn := fun _ => fun
  | [d1, d2, d3, d4] => { results := [.lit (.bool false)], args := [d1, d2, d3, d4] }
  | _ => none }
def FnLastAppliedLastWriteWinsWrongFalsely : Prop := fnLastAppliedLastWriteWinsRow.holds Try.pinned (OpenSpec.ofChange fnLastAppliedLastWriteWinsWrong)

/-- 'zzlaws_root_b1.FnInputErrorTellsCausesAndObjectsApart': WHATEVER THE INPUT: true; the input reads as it did. -/
def fnInputErrorTellsCausesAndObjectsApartSpec : ChangeSpec := { name := "fnInputErrorTellsCausesAndObjectsApart", fn := fun _ => fun
  | [d1, d2, d3, d4] => { results := [.lit (.bool true)], args := [d1, d2, d3, d4] }
  | _ => none }
def fnInputErrorTellsCausesAndObjectsApartRow : OpenClaim := { program := "qxb6615993a", sum := "049c592f0643fb0a5327751c10a4b0842491532f35af2555006523702dc4e36b", func := "example.com/fieldweave/fieldweave/zzlaws_root_b1.FnInputErrorTellsCausesAndObjectsApart", spec := "fnInputErrorTellsCausesAndObjectsApart", unfollowed := true, recurses := true, apart := false }
def FnInputErrorTellsCausesAndObjectsApartSaid : Prop := fnInputErrorTellsCausesAndObjectsApartRow.holds Try.pinned (OpenSpec.ofChange fnInputErrorTellsCausesAndObjectsApartSpec)

/-- ITS FALSE NEIGHBOUR: 'it returns false'. Refute it at one input. -/
def fnInputErrorTellsCausesAndObjectsApartWrong : ChangeSpec := { name := "fnInputErrorTellsCausesAndObjectsApart", fn := fun _ => fun
  | [d1, d2, d3, d4] => { results := [.lit (.bool false)], args := [d1, d2, d3, d4] }
  | _ => none }
def FnInputErrorTellsCausesAndObjectsApartWrongFalsely : Prop := fnInputErrorTellsCausesAndObjectsApartRow.holds Try.pinned (OpenSpec.ofChange fnInputErrorTellsCausesAndObjectsApartWrong)

/-- 'zzlaws_root_b1.FnLastAppliedRefusesNonString': WHATEVER THE INPUT: true; the input reads as it did. -/
def fnLastAppliedRefusesNonStringSpec : ChangeSpec := { name := "fnLastAppliedRefusesNonString", fn := fun _ => fun
  | [d1, d2, d3, d4, d5] => { results := [.lit (.bool true)], args := [d1, d2, d3, d4, d5] }
  | _ => none }
def fnLastAppliedRefusesNonStringRow : OpenClaim := { program := "qxb6615993a", sum := "049c592f0643fb0a5327751c10a4b0842491532f35af2555006523702dc4e36b", func := "example.com/fieldweave/fieldweave/zzlaws_root_b1.FnLastAppliedRefusesNonString", spec := "fnLastAppliedRefusesNonString", apart := false }
def FnLastAppliedRefusesNonStringSaid : Prop := fnLastAppliedRefusesNonStringRow.holds Try.pinned (OpenSpec.ofChange fnLastAppliedRefusesNonStringSpec)

/-- ITS FALSE NEIGHBOUR: 'it returns false'. Refute it at one input. -/
def fnLastAppliedRefusesNonStringWrong : ChangeSpec := { name := "fnLastAppliedRefusesNonString", fn := fun _ => fun
  | [d1, d2, d3, d4, d5] => { results := [.lit (.bool false)], args := [d1, d2, d3, d4, d5] }
  | _ => none }
def FnLastAppliedRefusesNonStringWrongFalsely : Prop := fnLastAppliedRefusesNonStringRow.holds Try.pinned (OpenSpec.ofChange fnLastAppliedRefusesNonStringWrong)

end Rows
end Go.Proofs.Qxb6615993a
