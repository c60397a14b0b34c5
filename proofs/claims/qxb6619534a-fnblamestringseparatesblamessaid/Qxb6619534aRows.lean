/-
  No cell of these rows narrows 'for every input' (looked for: loops, veiled, ifaces, maps, wideKeys, modest, calm, conditions, laid).
  DERIVED. THE GIVEN ROWS OF THIS SEAT. 3 by the template 'for every input the law returns true; each argument reads behind the call as it read before'; 0 by the template 'total and deterministic' (their statements: Qxb6619534aTotals.lean).
  GIVEN WITH THE SEED: the statements are not yours to turn. If you find one false, say at which input.
  Laid BY PROGRAM, IN A SANDBOX (cutbox-rows.mjs): the forced cells as the released guide's own fill.sh prints them over the translation a8c9fc877cb76c65… (all of the seat's roots in one cut). By AI agents, Wed Nov 11 2026. No macro, syntax, notation, axiom, sorry.
-/
import Derived.Test.Qxb6619534aChecked
import GoSem.Claim
import GoSem.ClaimJoined
import GoSem.ClaimMapViews
import Derived.JoinedTies
import Derived.KernelRfl
namespace Go.Proofs.Qxb6619534a
/- THE CELL 'sum', in the pinned program and in every row, IS THE sha256 OF THE DUMP (.gsa) THAT Qxb6619534aProg.lean LOADS. Nothing in Lean hashes anything: it is a label: what it is worth is what the hold of that sum in a sandbox is worth. -/
noncomputable def Try.pinned : Pinned := { name := "qxb6619534a", sum := "a8c9fc877cb76c65565b5efa9dfec0981e37e9647acdff438b395ced42cfa5b8", checked := Try.checked }
namespace Rows
def none {H : Type} : Left H := { results := [], args := [] }

/-- 'zzlaws_root_b1.FnBlameStringSeparatesBlames': WHATEVER THE INPUT: true; the input reads as it did. -/
def fnBlameStringSeparatesBlamesSpec : ChangeSpec := { name := "fnBlameStringSeparatesBlames", fn := fun _ => fun
  | [d1, d2] => { results := [.lit (.bool true)], args := [d1, d2] }
  | _ => none }
def fnBlameStringSeparatesBlamesRow : OpenClaim := { program := "qxb6619534a", sum := "a8c9fc877cb76c65565b5efa9dfec0981e37e9647acdff438b395ced42cfa5b8", func := "example.com/failure-codes/failure-codes/zzlaws_root_b1.FnBlameStringSeparatesBlames", spec := "fnBlameStringSeparatesBlames", apart := false }
def FnBlameStringSeparatesBlamesSaid : Prop := fnBlameStringSeparatesBlamesRow.holds Try.pinned (OpenSpec.ofChange fnBlameStringSeparatesBlamesSpec)

/-- ITS FALSE NEIGHBOUR: 'it returns false'. Refute it at one input. -/
def fnBlameStringSeparatesBlamesWrong : ChangeSpec := { name := "fnBlameStringSeparatesBlames", fn := fun _ => fun
  | [d1, d2] => { results := [.lit (.bool false)], args := [d1, d2] }
  | _ => none }
def FnBlameStringSeparatesBlamesWrongFalsely : Prop := fnBlameStringSeparatesBlamesRow.holds Try.pinned (OpenSpec.ofChange fnBlameStringSeparatesBlamesWrong)

/-- 'zzlaws_root_b1.FnVisibilityStringSeparatesVisibilities': WHATEVER THE INPUT: true; the input reads as it did. -/
def fnVisibilityStringSeparatesVisibilitiesSpec : ChangeSpec := { name := "fnVisibilityStringSeparatesVisibilities", fn := fun _ => fun
  | [d1, d2] => { results := [.lit (.bool true)], args := [d1, d2] }
  | _ => none }
def fnVisibilityStringSeparatesVisibilitiesRow : OpenClaim := { program := "qxb6619534a", sum := "a8c9fc877cb76c65565b5efa9dfec0981e37e9647acdff438b395ced42cfa5b8", func := "example.com/failure-codes/failure-codes/zzlaws_root_b1.FnVisibilityStringSeparatesVisibilities", spec := "fnVisibilityStringSeparatesVisibilities", apart := false }
def FnVisibilityStringSeparatesVisibilitiesSaid : Prop := fnVisibilityStringSeparatesVisibilitiesRow.holds Try.pinned (OpenSpec.ofChange fnVisibilityStringSeparatesVisibilitiesSpec)

/-- ITS FALSE NEIGHBOUR: 'it returns false'. Refute it at one input. -/
def fnVisibilityStringSeparatesVisibilitiesWrong : ChangeSpec := { name := "fnVisibilityStringSeparatesVisibilities", fn := fun _ => fun
  | [d1, d2] => { results := [.lit (.bool false)], args := [d1, d2] }
  | _ => none }
def FnVisibilityStringSeparatesVisibilitiesWrongFalsely : Prop := fnVisibilityStringSeparatesVisibilitiesRow.holds Try.pinned (OpenSpec.ofChange fnVisibilityStringSeparatesVisibilitiesWrong)

/-- 'zzlaws_root_b1.FnBlameAndVisibilityNamesNeverCollide': WHATEVER THE INPUT: true; the input reads as it did. -/
def fnBlameAndVisibilityNamesNeverCollideSpec : ChangeSpec := { name := "fnBlameAndVisibilityNamesNeverCollide", fn := fun _ => fun
  | [d1, d2] => { results := [.lit (.bool true)], args := [d1, d2] }
  | _ => none }
def fnBlameAndVisibilityNamesNeverCollideRow : OpenClaim := { program := "qxb6619534a", sum := "a8c9fc877cb76c65565b5efa9dfec0981e37e9647acdff438b395ced42cfa5b8", func := "example.com/failure-codes/failure-codes/zzlaws_root_b1.FnBlameAndVisibilityNamesNeverCollide", spec := "fnBlameAndVisibilityNamesNeverCollide", apart := false }
def FnBlameAndVisibilityNamesNeverCollideSaid : Prop := fnBlameAndVisibilityNamesNeverCollideRow.holds Try.pinned (OpenSpec.ofChange fnBlameAndVisibilityNamesNeverCollideSpec)

/-- ITS FALSE NEIGHBOUR: 'it returns false'. Refute it at one input. -/
def fnBlameAndVisibilityNamesNeverCollideWrong : ChangeSpec := { name := "fnBlameAndVisibilityNamesNeverCollide", fn := fun _ => fun
  | [d1, d2] => { results := [.lit (.bool false)], args := [d1, d2] }
  | _ => none }
def FnBlameAndVisibilityNamesNeverCollideWrongFalsely : Prop := fnBlameAndVisibilityNamesNeverCollideRow.holds Try.pinned (OpenSpec.ofChange fnBlameAndVisibilityNamesNeverCollideWrong)

end Rows
end Go.Proofs.Qxb6619534a
