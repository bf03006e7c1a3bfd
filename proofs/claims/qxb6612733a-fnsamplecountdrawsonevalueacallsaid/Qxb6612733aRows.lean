/-
  No cell of these rows narrows 'for every input' (looked for: loops, veiled, ifaces, maps, wideKeys, modest, calm, conditions, laid).
  DERIVED. THE GIVEN ROWS OF THIS SEAT. 5 by the template 'for every input the law returns true; each argument reads behind the call as it read before'; 0 by the template 'total and deterministic' (their statements: Qxb6612733aTotals.lean).
  GIVEN WITH THE SEED: the statements are not yours to turn. If you find one false, say at which input.
  Laid BY PROGRAM, IN A SANDBOX (cutbox-rows.mjs): the forced cells as the released guide's own fill.sh prints them over the translation 29b391b046664d8f… (all of the seat's roots in one cut). By AI agents, Wed Nov 11 2026. No macro, syntax, notation, axiom, sorry.
-/
import Derived.Test.Qxb6612733aChecked
import GoSem.Claim
import GoSem.ClaimJoined
import GoSem.ClaimMapViews
import Derived.JoinedTies
import Derived.KernelRfl
namespace Go.Proofs.Qxb6612733a
/- THE CELL 'sum', in the pinned program and in every row, IS THE sha256 OF THE DUMP (.gsa) THAT Qxb6612733aProg.lean LOADS. Nothing in Lean hashes anything: it is a label: what it is worth is what the hold of that sum in a sandbox is worth. -/
noncomputable def Try.pinned : Pinned := { name := "qxb6612733a", sum := "29b391b046664d8f0897ac9462093c2ba7eb480fa0cfefeb5f41b7b751740770", checked := Try.checked }
namespace Rows
def none {H : Type} : Left H := { results := [], args := [] }

/-- 'zzlaws_cmd_b1.FnSampleCountDrawsOneValueACall': WHATEVER THE INPUT: true; the input reads as it did. -/
def fnSampleCountDrawsOneValueACallSpec : ChangeSpec := { name := "fnSampleCountDrawsOneValueACall", fn := fun _ => fun
  | [d1, d2] => { results := [.lit (.bool true)], args := [d1, d2] }
  | _ => none }
def fnSampleCountDrawsOneValueACallRow : OpenClaim := { program := "qxb6612733a", sum := "29b391b046664d8f0897ac9462093c2ba7eb480fa0cfefeb5f41b7b751740770", func := "example.com/tallyshard/tallyshard/zzlaws_cmd_b1.FnSampleCountDrawsOneValueACall", spec := "fnSampleCountDrawsOneValueACall", inPlace := ["math/bits.Add64"], apart := false }
def FnSampleCountDrawsOneValueACallSaid : Prop := fnSampleCountDrawsOneValueACallRow.holds Try.pinned (OpenSpec.ofChange fnSampleCountDrawsOneValueACallSpec)

/-- ITS FALSE NEIGHBOUR: 'it returns false'. Refute it at one input. -/
def fnSampleCountDrawsOneValueACallWrong : ChangeSpec := { name := "fnSampleCountDrawsOneValueACall", fn := fun _ => fun
  | [d1, d2] => { results := [.lit (.bool false)], args := [d1, d2] }
  | _ => none }
def FnSampleCountDrawsOneValueACallWrongFalsely : Prop := fnSampleCountDrawsOneValueACallRow.holds Try.pinned (OpenSpec.ofChange fnSampleCountDrawsOneValueACallWrong)

/-- 'zzlaws_cmd_b1.FnComparedFailureAndSwapKeepMatch': WHATEVER THE INPUT: true; the input reads as it did. -/
def fnComparedFailureAndSwapKeepMatchSpec : ChangeSpec := { name := "fnComparedFailureAndSwapKeepMatch", fn := fun _ => fun
  | [d1, d2] => { results := [.lit (.bool true)], args := [d1, d2] }
  | _ => none }
def fnComparedFailureAndSwapKeepMatchRow : OpenClaim := { program := "qxb6612733a", sum := "29b391b046664d8f0897ac9462093c2ba7eb480fa0cfefeb5f41b7b751740770", func := "example.com/tallyshard/tallyshard/zzlaws_cmd_b1.FnComparedFailureAndSwapKeepMatch", spec := "fnComparedFailureAndSwapKeepMatch", apart := false }
def FnComparedFailureAndSwapKeepMatchSaid : Prop := fnComparedFailureAndSwapKeepMatchRow.holds Try.pinned (OpenSpec.ofChange fnComparedFailureAndSwapKeepMatchSpec)

/-- ITS FALSE NEIGHBOUR: 'it returns false'. Refute it at one input. -/
def fnComparedFailureAndSwapKeepMatchWrong : ChangeSpec := { name := "fnComparedFailureAndSwapKeepMatch", fn := fun _ => fun
  | [d1, d2] => { results := [.lit (.bool false)], args := [d1, d2] }
  | _ => none }
def FnComparedFailureAndSwapKeepMatchWrongFalsely : Prop := fnComparedFailureAndSwapKeepMatchRow.holds Try.pinned (OpenSpec.ofChange fnComparedFailureAndSwapKeepMatchWrong)

/-- 'zzlaws_cmd_b1.FnEqualHexAtAnyCut': WHATEVER THE INPUT: true; the input reads as it did. -/
def fnEqualHexAtAnyCutSpec : ChangeSpec := { name := "fnEqualHexAtAnyCut", fn := fun _ => fun
  | [d1, d2, d3] => { results := [.lit (.bool true)], args := [d1, d2, d3] }
  | _ => none }
def fnEqualHexAtAnyCutRow : OpenClaim := { program := "qxb6612733a", sum := "29b391b046664d8f0897ac9462093c2ba7eb480fa0cfefeb5f41b7b751740770", func := "example.com/tallyshard/tallyshard/zzlaws_cmd_b1.FnEqualHexAtAnyCut", spec := "fnEqualHexAtAnyCut", apart := false }
def FnEqualHexAtAnyCutSaid : Prop := fnEqualHexAtAnyCutRow.holds Try.pinned (OpenSpec.ofChange fnEqualHexAtAnyCutSpec)

/-- ITS FALSE NEIGHBOUR: 'it returns false'. Refute it at one input. -/
def fnEqualHexAtAnyCutWrong : ChangeSpec := { name := "fnEqualHexAtAnyCut", fn := fun _ => fun
  | [d1, d2, d3] => { results := [.lit (.bool false)], args := [d1, d2, d3] }
  | _ => none }
def FnEqualHexAtAnyCutWrongFalsely : Prop := fnEqualHexAtAnyCutRow.holds Try.pinned (OpenSpec.ofChange fnEqualHexAtAnyCutWrong)

/-- 'zzlaws_cmd_b1.FnEqualHexSeesEveryByte': WHATEVER THE INPUT: true; the input reads as it did. -/
def fnEqualHexSeesEveryByteSpec : ChangeSpec := { name := "fnEqualHexSeesEveryByte", fn := fun _ => fun
  | [d1, d2, d3] => { results := [.lit (.bool true)], args := [d1, d2, d3] }
  | _ => none }
def fnEqualHexSeesEveryByteRow : OpenClaim := { program := "qxb6612733a", sum := "29b391b046664d8f0897ac9462093c2ba7eb480fa0cfefeb5f41b7b751740770", func := "example.com/tallyshard/tallyshard/zzlaws_cmd_b1.FnEqualHexSeesEveryByte", spec := "fnEqualHexSeesEveryByte", apart := false }
def FnEqualHexSeesEveryByteSaid : Prop := fnEqualHexSeesEveryByteRow.holds Try.pinned (OpenSpec.ofChange fnEqualHexSeesEveryByteSpec)

/-- ITS FALSE NEIGHBOUR: 'it returns false'. Refute it at one input. -/
def fnEqualHexSeesEveryByteWrong : ChangeSpec := { name := "fnEqualHexSeesEveryByte", fn := fun _ => fun
  | [d1, d2, d3] => { results := [.lit (.bool false)], args := [d1, d2, d3] }
  | _ => none }
def FnEqualHexSeesEveryByteWrongFalsely : Prop := fnEqualHexSeesEveryByteRow.holds Try.pinned (OpenSpec.ofChange fnEqualHexSeesEveryByteWrong)

/-- 'zzlaws_cmd_b1.FnComparedAgreesWithEqualHexAndListsWant': WHATEVER THE INPUT: true; the input reads as it did. -/
def fnComparedAgreesWithEqualHexAndListsWantSpec : ChangeSpec := { name := "fnComparedAgreesWithEqualHexAndListsWant", fn := fun _ => fun
  | [d1, d2, d3] => { results := [.lit (.bool true)], args := [d1, d2, d3] }
  | _ => none }
def fnComparedAgreesWithEqualHexAndListsWantRow : OpenClaim := { program := "qxb6612733a", sum := "29b391b046664d8f0897ac9462093c2ba7eb480fa0cfefeb5f41b7b751740770", func := "example.com/tallyshard/tallyshard/zzlaws_cmd_b1.FnComparedAgreesWithEqualHexAndListsWant", spec := "fnComparedAgreesWithEqualHexAndListsWant", apart := false }
def FnComparedAgreesWithEqualHexAndListsWantSaid : Prop := fnComparedAgreesWithEqualHexAndListsWantRow.holds Try.pinned (OpenSpec.ofChange fnComparedAgreesWithEqualHexAndListsWantSpec)

/-- ITS FALSE NEIGHBOUR: 'it returns false'. Refute it at one input. -/
def fnComparedAgreesWithEqualHexAndListsWantWrong : ChangeSpec := { name := "fnComparedAgreesWithEqualHexAndListsWant", fn := fun _ => fun
  | [d1, d2, d3] => { results := [.lit (.bool false)], args := [d1, d2, d3] }
  | _ => none }
def FnComparedAgreesWithEqualHexAndListsWantWrongFalsely : Prop := fnComparedAgreesWithEqualHexAndListsWantRow.holds Try.pinned (OpenSpec.ofChange fnComparedAgreesWithEqualHexAndListsWantWrong)

end Rows
end Go.Proofs.Qxb6612733a
