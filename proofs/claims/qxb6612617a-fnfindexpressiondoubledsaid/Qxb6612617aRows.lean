/-
  No cell of these rows narrows 'for every input' (looked for: loops, veiled, ifaces, maps, wideKeys, modest, calm, conditions, laid).
  DERIVED. THE GIVEN ROWS OF THIS SEAT. 2 by the template 'for every input the law returns true; each argument reads behind the call as it read before'; 0 by the template 'total and deterministic' (their statements: Qxb6612617aTotals.lean).
  GIVEN WITH THE SEED: the statements are not yours to turn. If you find one false, say at which input.
  Laid BY PROGRAM, IN A SANDBOX (cutbox-rows.mjs): the forced cells as the released guide's own fill.sh prints them over the translation c30c248432185d94… (all of the seat's roots in one cut). By AI agents, Wed Nov 11 2026. No macro, syntax, notation, axiom, sorry.
-/
import Derived.Test.Qxb6612617aChecked
import GoSem.Claim
import GoSem.ClaimJoined
import GoSem.ClaimMapViews
import Derived.JoinedTies
import Derived.KernelRfl
namespace Go.Proofs.Qxb6612617a
/- THE CELL 'sum', in the pinned program and in every row, IS THE sha256 OF THE DUMP (.gsa) THAT Qxb6612617aProg.lean LOADS. Nothing in Lean hashes anything: it is a label: what it is worth is what the hold of that sum in a sandbox is worth. -/
noncomputable def Try.pinned : Pinned := { name := "qxb6612617a", sum := "c30c248432185d94e2f30da048ff7f42aaa5303f7272670ee75df5dceb651f6a", checked := Try.checked }
namespace Rows
def none {H : Type} : Left H := { results := [], args := [] }

/-- 'zzlaws_root_b1.FnFindExpressionLongWordByFirstByte': WHATEVER THE INPUT: true; the input reads as it did. -/
def fnFindExpressionLongWordByFirstByteSpec : ChangeSpec := { name := "fnFindExpressionLongWordByFirstByte", fn := fun _ => fun
  | [d] => { results := [.lit (.bool true)], args := [d] }
  | _ => none }
def fnFindExpressionLongWordByFirstByteRow : OpenClaim := { program := "qxb6612617a", sum := "c30c248432185d94e2f30da048ff7f42aaa5303f7272670ee75df5dceb651f6a", func := "example.com/portcullis/portcullis/zzlaws_root_b1.FnFindExpressionLongWordByFirstByte", spec := "fnFindExpressionLongWordByFirstByte", apart := false }
def FnFindExpressionLongWordByFirstByteSaid : Prop := fnFindExpressionLongWordByFirstByteRow.holds Try.pinned (OpenSpec.ofChange fnFindExpressionLongWordByFirstByteSpec)

/-- ITS FALSE NEIGHBOUR: 'it returns false'. Refute it at one input. -/
def fnFindExpressionLongWordByFirstByteWrong : ChangeSpec := { name := "fnFindExpressionLongWordByFirstByte", fn := fun _ => fun
  | [d] => { results := [.lit (.bool false)], args := [d] }
  | _ => none }
def FnFindExpressionLongWordByFirstByteWrongFalsely : Prop := fnFindExpressionLongWordByFirstByteRow.holds Try.pinned (OpenSpec.ofChange fnFindExpressionLongWordByFirstByteWrong)

/-- 'zzlaws_root_b1.FnFindExpressionDoubled': WHATEVER THE INPUT: true; the input reads as it did. -/
def fnFindExpressionDoubledSpec : ChangeSpec := { name := "fnFindExpressionDoubled", fn := fun _ => fun
  | [d] => { results := [.lit (.bool true)], args := [d] }
  | _ => none }
def fnFindExpressionDoubledRow : OpenClaim := { program := "qxb6612617a", sum := "c30c248432185d94e2f30da048ff7f42aaa5303f7272670ee75df5dceb651f6a", func := "example.com/portcullis/portcullis/zzlaws_root_b1.FnFindExpressionDoubled", spec := "fnFindExpressionDoubled", apart := false }
def FnFindExpressionDoubledSaid : Prop := fnFindExpressionDoubledRow.holds Try.pinned (OpenSpec.ofChange fnFindExpressionDoubledSpec)

/-- ITS FALSE NEIGHBOUR: 'it returns false'. Refute it at one input. -/
def fnFindExpressionDoubledWrong : ChangeSpec := { name := "fnFindExpressionDoubled", fn := fun _ => fun
  | [d] => { results := [.lit (.bool false)], args := [d] }
  | _ => none }
def FnFindExpressionDoubledWrongFalsely : Prop := fnFindExpressionDoubledRow.holds Try.pinned (OpenSpec.ofChange fnFindExpressionDoubledWrong)

end Rows
end Go.Proofs.Qxb6612617a
