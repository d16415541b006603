/-
  No cell of these rows narrows 'for every input' (looked for: loops, veiled, ifaces, maps, wideKeys, modest, calm, conditions, laid).
  DERIVED. THE GIVEN ROWS OF THIS SEAT. 1 by the template 'for every input the law returns true; each argument reads behind the call as it read before'; 0 by the template 'total and deterministic' (their statements: Qxb6614772aTotals.lean).
  GIVEN WITH THE SEED: the statements are not yours to turn. If you find one false, say at which input.
  Laid BY PROGRAM, IN A SANDBOX (cutbox-rows.mjs): the forced cells as the released guide's own fill.sh prints them over the translation 42eb8da0b16c2ff5… (all of the seat's roots in one cut). By AI agents, Wed Nov 11 2026. No macro, syntax, notation, axiom, sorry.
-/
import Derived.Test.Qxb6614772aChecked
import GoSem.Claim
import GoSem.ClaimJoined
import GoSem.ClaimMapViews
import Derived.JoinedTies
import Derived.KernelRfl
namespace Go.Proofs.Qxb6614772a
/- THE CELL 'sum', in the pinned program and in every row, IS THE sha256 OF THE DUMP (.gsa) THAT Qxb6614772aProg.lean LOADS. Nothing in Lean hashes anything: it is a label: what it is worth is what the hold of that sum in a sandbox is worth. -/
noncomputable def Try.pinned : Pinned := { name := "qxb6614772a", sum := "42eb8da0b16c2ff554cb288793eecbef3b43cd4b12bc824a70554ed546930936", checked := Try.checked }
namespace Rows
def none {H : Type} : Left H := { results := [], args := [] }

/-- 'zzlaws_internal_protocol_b1.FnEncoderStateAppendsItsOwnByte': WHATEVER THE INPUT: true; the input reads as it did. -/
def fnEncoderStateAppendsItsOwnByteSpec : ChangeSpec := { name := "fnEncoderStateAppendsItsOwnByte", fn := fun _ => fun
  | [d1, d2, d3, d4] => { results := [.lit (.bool true)], args := [d1, d2, d3, d4] }
  | _ => none }
def fnEncoderStateAppendsItsOwnByteRow : OpenClaim := { program := "qxb6614772a", sum := "42eb8da0b16c2ff554cb288793eecbef3b43cd4b12bc824a70554ed546930936", func := "example.com/covey/covey/zzlaws_internal_protocol_b1.FnEncoderStateAppendsItsOwnByte", spec := "fnEncoderStateAppendsItsOwnByte", apart := false }
def FnEncoderStateAppendsItsOwnByteSaid : Prop := fnEncoderStateAppendsItsOwnByteRow.holds Try.pinned (OpenSpec.ofChange fnEncoderStateAppendsItsOwnByteSpec)

/-- ITS FALSE NEIGHBOUR: 'it returns false'. Refute it at one input. -/
def fnEncoderStateAppendsItsOwnByteWrong : ChangeSpec := { name := "fnEncoderStateAppendsItsOwnByte", fn := fun _ => fun
  | [d1, d2, d3, d4] => { results := [.lit (.bool false)], args := [d1, d2, d3, d4] }
  | _ => none }
def FnEncoderStateAppendsItsOwnByteWrongFalsely : Prop := fnEncoderStateAppendsItsOwnByteRow.holds Try.pinned (OpenSpec.ofChange fnEncoderStateAppendsItsOwnByteWrong)

end Rows
end Go.Proofs.Qxb6614772a
