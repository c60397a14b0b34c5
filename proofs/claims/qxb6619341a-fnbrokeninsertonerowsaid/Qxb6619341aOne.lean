import Derived.Test.Qxb6619341aBase
namespace Go.Proofs.Qxb6619341a
open Go.RowKit

/-- A number and a bool; the number lies within the cap. -/
def IsPair (e : Ending) (p : Prop) : Prop := ∃ (t : Int) (ok : Bool), e = .returned (.tuple #[.int .i64 t, .bool ok]) ∧ 0 ≤ t ∧ t ≤ 1048576 ∧ (ok = true → p)
theorem IsPair.mk (t : Int) (ok : Bool) (p : Prop) (h0 : 0 ≤ t) (h1 : t ≤ 1048576) (h : ok = true → p) : IsPair (.returned (.tuple #[.int .i64 t, .bool ok])) p := ⟨t, ok, rfl, h0, h1, h⟩

set_option maxRecDepth 100000 in
set_option maxHeartbeats 1000000 in
theorem one_any (r : R) (z : Int) (w : World) (h0 : 0 ≤ z) (h1 : z ≤ 1048576) :
    Calls Try.prog 10 #[.agg #[.string r.s0, .string r.s1, .string r.s2, .string r.s3, .bool r.h], .int .i64 z] w fun e w' => IsPair e True ∧ Below w.heap.size w w' := by
  go_enter Try.func10, Try.ntmps10
  go_wp2
  all_goals
    go_ret2
    exact ⟨IsPair.mk _ _ _ (by omega) (by omega) (fun _ => trivial), (Below.refl _ _).alloc (Nat.le_refl _) _⟩

end Go.Proofs.Qxb6619341a
