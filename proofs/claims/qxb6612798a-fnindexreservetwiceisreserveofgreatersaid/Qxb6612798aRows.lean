/-
  No cell of these rows narrows 'for every input' (looked for: loops, veiled, ifaces, maps, wideKeys, modest, calm, conditions, laid).
  DERIVED. THE GIVEN ROWS OF THIS SEAT. 4 by the template 'for every input the law returns true; each argument reads behind the call as it read before'; 0 by the template 'total and deterministic' (their statements: Qxb6612798aTotals.lean).
  GIVEN WITH THE SEED: the statements are not yours to turn. If you find one false, say at which input.
  Laid BY PROGRAM, IN A SANDBOX (cutbox-rows.mjs): the forced cells as the released guide's own fill.sh prints them over the translation 3e83012cc539e0a6… (all of the seat's roots in one cut). By AI agents, Wed Nov 11 2026. No macro, syntax, notation, axiom, sorry.
-/
import Derived.Test.Qxb6612798aChecked
import GoSem.Claim
import GoSem.ClaimJoined
import GoSem.ClaimMapViews
import Derived.JoinedTies
import Derived.KernelRfl
namespace Go.Proofs.Qxb6612798a
/- THE CELL 'sum', in the pinned program and in every row, IS THE sha256 OF THE DUMP (.gsa) THAT Qxb6612798aProg.lean LOADS. Nothing in Lean hashes anything: it is a label: what it is worth is what the hold of that sum in a sandbox is worth. -/
noncomputable def Try.pinned : Pinned := { name := "qxb6612798a", sum := "3e83012cc539e0a603245194c877acf00f07d75382af0288113bb40be3ab5b56", checked := Try.checked }
namespace Rows
def none {H : Type} : Left H := { results := [], args := [] }

/-- 'zzlaws_internal_lint_b1.FnIndexFindAfterAdds': WHATEVER THE INPUT: true; the input reads as it did. -/
def fnIndexFindAfterAddsSpec : ChangeSpec := { name := "fnIndexFindAfterAdds", fn := fun _ => fun
  | [d1, d2, d3] => { results := [.lit (.bool true)], args := [d1, d2, d3] }
  | _ => none }
def fnIndexFindAfterAddsRow : OpenClaim := { program := "qxb6612798a", sum := "3e83012cc539e0a603245194c877acf00f07d75382af0288113bb40be3ab5b56", func := "example.com/tunlint/tunlint/zzlaws_internal_lint_b1.FnIndexFindAfterAdds", spec := "fnIndexFindAfterAdds", unfollowed := true, recurses := true, apart := false }
def FnIndexFindAfterAddsSaid : Prop := fnIndexFindAfterAddsRow.holds Try.pinned (OpenSpec.ofChange fnIndexFindAfterAddsSpec)

/-- ITS FALSE NEIGHBOUR: 'it returns false'. Refute it at one input. -/
def fnIndexFindAfterAddsWrong : ChangeSpec := { name := "fnIndexFindAfterAdds", fn := fun _ => fun
  | [d1, d2, d3] => { results := [.lit (.bool false)], args := [d1, d2, d3] }
  | _ => none }
def FnIndexFindAfterAddsWrongFalsely : Prop := fnIndexFindAfterAddsRow.holds Try.pinned (OpenSpec.ofChange fnIndexFindAfterAddsWrong)

/-- 'zzlaws_internal_lint_b1.FnIndexAddLayout': WHATEVER THE INPUT: true; the input reads as it did. -/
def fnIndexAddLayoutSpec : ChangeSpec := { name := "fnIndexAddLayout", fn := fun _ => fun
  | [d] => { results := [.lit (.bool true)], args := [d] }
  | _ => none }
def fnIndexAddLayoutRow : OpenClaim := { program := "qxb6612798a", sum := "3e83012cc539e0a603245194c877acf00f07d75382af0288113bb40be3ab5b56", func := "example.com/tunlint/tunlint/zzlaws_internal_lint_b1.FnIndexAddLayout", spec := "fnIndexAddLayout", unfollowed := true, recurses := true, apart := false }
def FnIndexAddLayoutSaid : Prop := fnIndexAddLayoutRow.holds Try.pinned (OpenSpec.ofChange fnIndexAddLayoutSpec)

/-- ITS FALSE NEIGHBOUR: 'it returns false'. Refute it at one input. -/
def fnIndexAddLayoutWrong : ChangeSpec := { name := "fnIndexAddLayout", fn := fun _ => fun
  | [d] => { results := [.lit (.bool false)], args := [d] }
  | _ => none }
def FnIndexAddLayoutWrongFalsely : Prop := fnIndexAddLayoutRow.holds Try.pinned (OpenSpec.ofChange fnIndexAddLayoutWrong)

/-- 'zzlaws_internal_lint_b1.FnIndexReserveThenAddsDoNotGrow': WHATEVER THE INPUT: true; the input reads as it did. -/
def fnIndexReserveThenAddsDoNotGrowSpec : ChangeSpec := { name := "fnIndexReserveThenAddsDoNotGrow", fn := fun _ => fun
  | [d1, d2, d3] => { results := [.lit (.bool true)], args := [d1, d2, d3] }
  | _ => none }
def fnIndexReserveThenAddsDoNotGrowRow : OpenClaim := { program := "qxb6612798a", sum := "3e83012cc539e0a603245194c877acf00f07d75382af0288113bb40be3ab5b56", func := "example.com/tunlint/tunlint/zzlaws_internal_lint_b1.FnIndexReserveThenAddsDoNotGrow", spec := "fnIndexReserveThenAddsDoNotGrow", unfollowed := true, recurses := true, apart := false }
def FnIndexReserveThenAddsDoNotGrowSaid : Prop := fnIndexReserveThenAddsDoNotGrowRow.holds Try.pinned (OpenSpec.ofChange fnIndexReserveThenAddsDoNotGrowSpec)

/-- ITS FALSE NEIGHBOUR: 'it returns false'. Refute it at one input. -/
def fnIndexReserveThenAddsDoNotGrowWrong : ChangeSpec := { name := "fnIndexReserveThenAddsDoNotGrow", fn := fun _ => fun
  | [d1, d2, d3] => { results := [.lit (.bool false)], args := [d1, d2, d3] }
  | _ => none }
def FnIndexReserveThenAddsDoNotGrowWrongFalsely : Prop := fnIndexReserveThenAddsDoNotGrowRow.holds Try.pinned (OpenSpec.ofChange fnIndexReserveThenAddsDoNotGrowWrong)

/-- 'zzlaws_internal_lint_b1.FnIndexReserveTwiceIsReserveOfGreater': WHATEVER THE INPUT: true; the input reads as it did. -/
def fnIndexReserveTwiceIsReserveOfGreaterSpec : ChangeSpec := { name := "fnIndexReserveTwiceIsReserveOfGreater", fn := fun _ => fun
  | [d1, d2, d3] => { results := [.lit (.bool true)], args := [d1, d2, d3] }
  | _ => none }
def fnIndexReserveTwiceIsReserveOfGreaterRow : OpenClaim := { program := "qxb6612798a", sum := "3e83012cc539e0a603245194c877acf00f07d75382af0288113bb40be3ab5b56", func := "example.com/tunlint/tunlint/zzlaws_internal_lint_b1.FnIndexReserveTwiceIsReserveOfGreater", spec := "fnIndexReserveTwiceIsReserveOfGreater", unfollowed := true, recurses := true, apart := false }
def FnIndexReserveTwiceIsReserveOfGreaterSaid : Prop := fnIndexReserveTwiceIsReserveOfGreaterRow.holds Try.pinned (OpenSpec.ofChange fnIndexReserveTwiceIsReserveOfGreaterSpec)

/-- ITS FALSE NEIGHBOUR: 'it returns false'. Refute it at one input. -/
def fnIndexReserveTwiceIsReserveOfGreaterWrong : ChangeSpec := { name := "fnIndexReserveTwiceIsReserveOfGreater", fn := fun _ => fun
  | [d1, d2, d3] => { results := [.lit (.bool false)], args := [d1, d2, d3] }
  | _ => none }
def FnIndexReserveTwiceIsReserveOfGreaterWrongFalsely : Prop := fnIndexReserveTwiceIsReserveOfGreaterRow.holds Try.pinned (OpenSpec.ofChange fnIndexReserveTwiceIsReserveOfGreaterWrong)

end Rows
end Go.Proofs.Qxb6612798a
