/-
  No cell of these rows narrows 'for every input' (looked for: loops, veiled, ifaces, maps, wideKeys, modest, calm, conditions, laid).
  DERIVED. THE GIVEN ROWS OF THIS SEAT. 2 by the template 'for every input the law returns true; each argument reads behind the call as it read before'; 0 by the template 'total and deterministic' (their statements: Qxb6619341aTotals.lean).
  GIVEN WITH THE SEED: the statements are not yours to turn. If you find one false, say at which input.
  Laid BY PROGRAM, IN A SANDBOX (cutbox-rows.mjs): the forced cells as the released guide's own fill.sh prints them over the translation 36d488f1589c0a5b… (all of the seat's roots in one cut). By AI agents, Wed Nov 11 2026. No macro, syntax, notation, axiom, sorry.
-/
import Derived.Test.Qxb6619341aChecked
import GoSem.Claim
import GoSem.ClaimJoined
import GoSem.ClaimMapViews
import Derived.JoinedTies
import Derived.KernelRfl
namespace Go.Proofs.Qxb6619341a
/- THE CELL 'sum', in the pinned program and in every row, IS THE sha256 OF THE DUMP (.gsa) THAT Qxb6619341aProg.lean LOADS. Nothing in Lean hashes anything: it is a label: what it is worth is what the hold of that sum in a sandbox is worth. -/
noncomputable def Try.pinned : Pinned := { name := "qxb6619341a", sum := "36d488f1589c0a5b2517cfd480b89c5a3b2153eb1890141f61976fc3ef620475", checked := Try.checked }
namespace Rows
def none {H : Type} : Left H := { results := [], args := [] }

/-- 'zzlaws_check_b1.FnBrokenSplitAndMark': WHATEVER THE INPUT: true; the input reads as it did. -/
def fnBrokenSplitAndMarkSpec : ChangeSpec := { name := "fnBrokenSplitAndMark", fn := fun _ => fun
  | [d1, d2] => { results := [.lit (.bool true)], args := [d1, d2] }
  | _ => none }
def fnBrokenSplitAndMarkRow : OpenClaim := { program := "qxb6619341a", sum := "36d488f1589c0a5b2517cfd480b89c5a3b2153eb1890141f61976fc3ef620475", func := "example.com/vestline/vestline/zzlaws_check_b1.FnBrokenSplitAndMark", spec := "fnBrokenSplitAndMark", apart := false }
def FnBrokenSplitAndMarkSaid : Prop := fnBrokenSplitAndMarkRow.holds Try.pinned (OpenSpec.ofChange fnBrokenSplitAndMarkSpec)

/-- ITS FALSE NEIGHBOUR: 'it returns false'. Refute it at one input. -/
def fnBrokenSplitAndMarkWrong : ChangeSpec := { name := "fnBrokenSplitAndMark", fn := fun _ => fun
  | [d1, d2] => { results := [.lit (.bool false)], args := [d1, d2] }
  | _ => none }
def FnBrokenSplitAndMarkWrongFalsely : Prop := fnBrokenSplitAndMarkRow.holds Try.pinned (OpenSpec.ofChange fnBrokenSplitAndMarkWrong)

/-- 'zzlaws_check_b1.FnBrokenInsertOneRow': WHATEVER THE INPUT: true; the input reads as it did. -/
def fnBrokenInsertOneRowSpec : ChangeSpec := { name := "fnBrokenInsertOneRow", fn := fun _ => fun
  | [d1, d2, d3] => { results := [.lit (.bool true)], args := [d1, d2, d3] }
  | _ => none }
def fnBrokenInsertOneRowRow : OpenClaim := { program := "qxb6619341a", sum := "36d488f1589c0a5b2517cfd480b89c5a3b2153eb1890141f61976fc3ef620475", func := "example.com/vestline/vestline/zzlaws_check_b1.FnBrokenInsertOneRow", spec := "fnBrokenInsertOneRow", apart := false }
def FnBrokenInsertOneRowSaid : Prop := fnBrokenInsertOneRowRow.holds Try.pinned (OpenSpec.ofChange fnBrokenInsertOneRowSpec)

/-- ITS FALSE NEIGHBOUR: 'it returns false'. Refute it at one input. -/
def fnBrokenInsertOneRowWrong : ChangeSpec := { name := "fnBrokenInsertOneRow", fn := fun _ => fun
  | [d1, d2, d3] => { results := [.lit (.bool false)], args := [d1, d2, d3] }
  | _ => none }
def FnBrokenInsertOneRowWrongFalsely : Prop := fnBrokenInsertOneRowRow.holds Try.pinned (OpenSpec.ofChange fnBrokenInsertOneRowWrong)

end Rows
end Go.Proofs.Qxb6619341a
