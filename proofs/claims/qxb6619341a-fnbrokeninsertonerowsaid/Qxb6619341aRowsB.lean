import Derived.Test.Qxb6619341aOne
namespace Go.Proofs.Qxb6619341a
open Go.RowKit

set_option maxRecDepth 100000 in
set_option maxHeartbeats 1000000 in
theorem rowsB_any (b off n c : Nat) (L : Nat → R) (w : World) (hn : n ≤ 9223372036854775807) (hb : b < w.heap.size) (hat : At w b off n L) :
    Calls Try.prog 6 #[.slice (some ⟨b, off, none⟩) n c, .int .i64 0] w fun e w' => IsPair e (n ≤ 14563) ∧ Below w.heap.size w w' := by
  go_enter Try.func6, Try.ntmps6
  go_wp2
  · go_ret2
    exact ⟨IsPair.mk _ _ _ (by omega) (by omega) (fun h => by cases h), Below.refl _ _⟩
  · go_loopw [6, 7, 8] (fun t o i wr => ∃ (z : Int) (k : Nat), k ≤ n ∧ i = .int .i64 k ∧ t = .int .i64 z ∧ o = .bool true ∧ 0 ≤ z ∧ z ≤ 1048576 ∧ Below w.heap.size w wr) (fun _ _ i _ => n - (intOf i).toNat)
    case atStart => exact ⟨0, 0, Nat.zero_le _, rfl, rfl, rfl, by omega, by omega, Below.refl _ _⟩
    case round =>
      obtain ⟨z, k, hk, rfl, rfl, rfl, hz0, hz1, hnx⟩ := hrel
      by_cases hlt : k < n
      · have a0 := (hat.below hnx hb).c0 k hlt
        have a1 := (hat.below hnx hb).c1 k hlt
        have a2 := (hat.below hnx hb).c2 k hlt
        have a3 := (hat.below hnx hb).c3 k hlt
        have a4 := (hat.below hnx hb).c4 k hlt
        go_wp2_with fail
        refine (one_any (L k) z wr hz0 hz1).mono ?_
        rintro e w' ⟨⟨t, ok, rfl, ht0, ht1, _⟩, hw'⟩
        have hnx' : Below w.heap.size w w' := hnx.trans (hw'.mono hnx.size)
        cases ok
        · go_wp2
          go_ret2
          exact ⟨IsPair.mk _ _ _ ht0 ht1 (fun h => by cases h), hnx'⟩
        · go_wp2
          go_roundw
          case rel => exact ⟨t, k + 1, by omega, by go_num, rfl, rfl, ht0, ht1, hnx'⟩
          case measure => simp [intOf]; omega
      · go_wp2
        go_ret2
        exact ⟨IsPair.mk _ _ _ hz0 hz1 (fun _ => by omega), hnx⟩

theorem rowsB_nil (a : Option Addr) (w : World) :
    Calls Try.prog 6 #[.slice a 0 0, .int .i64 0] w fun e w' => IsPair e (0 ≤ 14563) ∧ Below w.heap.size w w' := by
  go_enter Try.func6, Try.ntmps6
  go_wp2
  go_loopw [6, 7, 8] (fun t o i wr => t = .int .i64 0 ∧ o = .bool true ∧ i = .int .i64 0 ∧ Below w.heap.size w wr) (fun _ _ _ _ => 0)
  case atStart => exact ⟨rfl, rfl, rfl, Below.refl _ _⟩
  case round =>
    obtain ⟨rfl, rfl, rfl, hnx⟩ := hrel
    go_wp2
    go_ret2
    exact ⟨IsPair.mk _ _ _ (by omega) (by omega) (fun _ => by omega), hnx⟩

end Go.Proofs.Qxb6619341a
