/-
  No cell of these rows narrows 'for every input' (looked for: loops, veiled, ifaces, maps, wideKeys, modest, calm, conditions, laid).
  DERIVED. THE GIVEN ROWS OF THIS SEAT. 5 by the template 'for every input the law returns true; each argument reads behind the call as it read before'; 0 by the template 'total and deterministic' (their statements: Qxb6619458aTotals.lean).
  GIVEN WITH THE SEED: the statements are not yours to turn. If you find one false, say at which input.
  Laid BY PROGRAM, IN A SANDBOX (cutbox-rows.mjs): the forced cells as the released guide's own fill.sh prints them over the translation d1b2f5bbeb25616f… (all of the seat's roots in one cut). By AI agents, Wed Nov 11 2026. No macro, syntax, notation, axiom, sorry.
-/
import Derived.Test.Qxb6619458aChecked
import GoSem.Claim
import GoSem.ClaimJoined
import GoSem.ClaimMapViews
import Derived.JoinedTies
import Derived.KernelRfl
namespace Go.Proofs.Qxb6619458a
/- THE CELL 'sum', in the pinned program and in every row, IS THE sha256 OF THE DUMP (.gsa) THAT Qxb6619458aProg.lean LOADS. Nothing in Lean hashes anything: it is a label: what it is worth is what the hold of that sum in a sandbox is worth. -/
noncomputable def Try.pinned : Pinned := { name := "qxb6619458a", sum := "d1b2f5bbeb25616fed75a00a0d7fafca72249ca709811ddcd9b2572dab5849c9", checked := Try.checked }
namespace Rows
def none {H : Type} : Left H := { results := [], args := [] }

/-- 'zzlaws_internal_sim_b1.FnAdvanceExact': WHATEVER THE INPUT: true; the input reads as it did. -/
def fnAdvanceExactSpec : ChangeSpec := { name := "fnAdvanceExact", fn := fun _ => fun
  | [d1, d2, d3, d4, d5, d6, d7, d8, d9, d10] => { results := [.lit (.bool true)], args := [d1, d2, d3, d4, d5, d6, d7, d8, d9, d10] }
  | _ => none }
def fnAdvanceExactRow : OpenClaim := { program := "qxb6619458a", sum := "d1b2f5bbeb25616fed75a00a0d7fafca72249ca709811ddcd9b2572dab5849c9", func := "example.com/loomcast/loomcast/zzlaws_internal_sim_b1.FnAdvanceExact", spec := "fnAdvanceExact", apart := false }
def FnAdvanceExactSaid : Prop := fnAdvanceExactRow.holds Try.pinned (OpenSpec.ofChange fnAdvanceExactSpec)

/-- ITS FALSE NEIGHBOUR: 'it returns false'. Refute it at one input. -/
def fnAdvanceExactWrong : ChangeSpec := { name := "fnAdvanceExact", fn := fun _ => fun
  | [d1, d2, d3, d4, d5, d6, d7, d8, d9, d10] => { results := [.lit (.bool false)], args := [d1, d2, d3, d4, d5, d6, d7, d8, d9, d10] }
  | _ => none }
def FnAdvanceExactWrongFalsely : Prop := fnAdvanceExactRow.holds Try.pinned (OpenSpec.ofChange fnAdvanceExactWrong)

/-- 'zzlaws_internal_sim_b1.FnPlaceClosedForm': WHATEVER THE INPUT: true; the input reads as it did. -/
def fnPlaceClosedFormSpec : ChangeSpec := { name := "fnPlaceClosedForm", fn := fun _ => fun
  | [d1, d2, d3, d4, d5, d6] => { results := [.lit (.bool true)], args := [d1, d2, d3, d4, d5, d6] }
  | _ => none }
def fnPlaceClosedFormRow : OpenClaim := { program := "qxb6619458a", sum := "d1b2f5bbeb25616fed75a00a0d7fafca72249ca709811ddcd9b2572dab5849c9", func := "example.com/loomcast/loomcast/zzlaws_internal_sim_b1.FnPlaceClosedForm", spec := "fnPlaceClosedForm", apart := false }
def FnPlaceClosedFormSaid : Prop := fnPlaceClosedFormRow.holds Try.pinned (OpenSpec.ofChange fnPlaceClosedFormSpec)

/-- ITS FALSE NEIGHBOUR: 'it returns false'. Refute it at one input. -/
def fnPlaceClosedFormWrong : ChangeSpec := { name := "fnPlaceClosedForm", fn := fun _ => fun
  | [d1, d2, d3, d4, d5, d6] => { results := [.lit (.bool false)], args := [d1, d2, d3, d4, d5, d6] }
  | _ => none }
def FnPlaceClosedFormWrongFalsely : Prop := fnPlaceClosedFormRow.holds Try.pinned (OpenSpec.ofChange fnPlaceClosedFormWrong)

/-- 'zzlaws_internal_sim_b1.FnPlaceSplitAnywhere': WHATEVER THE INPUT: true; the input reads as it did. -/
def fnPlaceSplitAnywhereSpec : ChangeSpec := { name := "fnPlaceSplitAnywhere", fn := fun _ => fun
  | [d1, d2, d3, d4, d5, d6, d7] => { results := [.lit (.bool true)], args := [d1, d2, d3, d4, d5, d6, d7] }
  | _ => none }
def fnPlaceSplitAnywhereRow : OpenClaim := { program := "qxb6619458a", sum := "d1b2f5bbeb25616fed75a00a0d7fafca72249ca709811ddcd9b2572dab5849c9", func := "example.com/loomcast/loomcast/zzlaws_internal_sim_b1.FnPlaceSplitAnywhere", spec := "fnPlaceSplitAnywhere", apart := false }
def FnPlaceSplitAnywhereSaid : Prop := fnPlaceSplitAnywhereRow.holds Try.pinned (OpenSpec.ofChange fnPlaceSplitAnywhereSpec)

/-- ITS FALSE NEIGHBOUR: 'it returns false'. Refute it at one input. -/
def fnPlaceSplitAnywhereWrong : ChangeSpec := { name := "fnPlaceSplitAnywhere", fn := fun _ => fun
  | [d1, d2, d3, d4, d5, d6, d7] => { results := [.lit (.bool false)], args := [d1, d2, d3, d4, d5, d6, d7] }
  | _ => none }
def FnPlaceSplitAnywhereWrongFalsely : Prop := fnPlaceSplitAnywhereRow.holds Try.pinned (OpenSpec.ofChange fnPlaceSplitAnywhereWrong)

/-- 'zzlaws_internal_sim_b1.FnDecideEverywhereCommute': WHATEVER THE INPUT: true; the input reads as it did. -/
def fnDecideEverywhereCommuteSpec : ChangeSpec := { name := "fnDecideEverywhereCommute", fn := fun _ => fun
  | [d1, d2, d3, d4, d5, d6, d7, d8, d9, d10] => { results := [.lit (.bool true)], args := [d1, d2, d3, d4, d5, d6, d7, d8, d9, d10] }
  | _ => none }
def fnDecideEverywhereCommuteRow : OpenClaim := { program := "qxb6619458a", sum := "d1b2f5bbeb25616fed75a00a0d7fafca72249ca709811ddcd9b2572dab5849c9", func := "example.com/loomcast/loomcast/zzlaws_internal_sim_b1.FnDecideEverywhereCommute", spec := "fnDecideEverywhereCommute", apart := false }
def FnDecideEverywhereCommuteSaid : Prop := fnDecideEverywhereCommuteRow.holds Try.pinned (OpenSpec.ofChange fnDecideEverywhereCommuteSpec)

/-- ITS FALSE NEIGHBOUR: 'it returns false'. Refute it at one input. -/
def fnDecideEverywhereCommuteWrong : ChangeSpec := { name := "fnDecideEverywhereCommute", fn := fun _ => fun
  | [d1, d2, d3, d4, d5, d6, d7, d8, d9, d10] => { results := [.lit (.bool false)], args := [d1, d2, d3, d4, d5, d6, d7, d8, d9, d10] }
  | _ => none }
def FnDecideEverywhereCommuteWrongFalsely : Prop := fnDecideEverywhereCommuteRow.holds Try.pinned (OpenSpec.ofChange fnDecideEverywhereCommuteWrong)

/-- 'zzlaws_internal_sim_b1.FnDecideRotateScript': WHATEVER THE INPUT: true; the input reads as it did. -/
def fnDecideRotateScriptSpec : ChangeSpec := { name := "fnDecideRotateScript", fn := fun _ => fun
  | [d1, d2, d3, d4, d5] => { results := [.lit (.bool true)], args := [d1, d2, d3, d4, d5] }
  | _ => none }
def fnDecideRotateScriptRow : OpenClaim := { program := "qxb6619458a", sum := "d1b2f5bbeb25616fed75a00a0d7fafca72249ca709811ddcd9b2572dab5849c9", func := "example.com/loomcast/loomcast/zzlaws_internal_sim_b1.FnDecideRotateScript", spec := "fnDecideRotateScript", apart := false }
def FnDecideRotateScriptSaid : Prop := fnDecideRotateScriptRow.holds Try.pinned (OpenSpec.ofChange fnDecideRotateScriptSpec)

/-- ITS FALSE NEIGHBOUR: 'it returns false'. Refute it at one input. -/
def fnDecideRotateScriptWrong : ChangeSpec := { name := "fnDecideRotateScript", fn := fun _ => fun
  | [d1, d2, d3, d4, d5] => { results := [.lit (.bool false)], args := [d1, d2, d3, d4, d5] }
  | _ => none }
def FnDecideRotateScriptWrongFalsely : Prop := fnDecideRotateScriptRow.holds Try.pinned (OpenSpec.ofChange fnDecideRotateScriptWrong)

end Rows
end Go.Proofs.Qxb6619458a
