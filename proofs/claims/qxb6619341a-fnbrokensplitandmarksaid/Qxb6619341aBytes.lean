import Derived.Test.Qxb6619341aBase
namespace Go.Proofs.Qxb6619341a
open Go.RowKit

set_option maxRecDepth 100000 in
set_option maxHeartbeats 1000000 in
theorem bytes5_any (b off n c : Nat) (x : Int) (L : Nat → R) (w : World) (hn : n ≤ 9223372036854775807) (hat : At w b off n L) :
    Calls Try.prog 5 #[.slice (some ⟨b, off, none⟩) n c, .int .i64 x] w fun e w' => IsBool e ∧ w' = w := by
  go_enter Try.func5, Try.ntmps5
  go_wp2
  · go_ret
    exact ⟨IsBool.mk _, rfl⟩
  · go_loop [5, 6] (fun t i => ∃ (z : Int) (k : Nat), k ≤ n ∧ i = .int .i64 k ∧ t = .int .i64 z ∧ 0 ≤ z ∧ z ≤ 1048576) (fun _ i => n - (intOf i).toNat)
    case atStart => exact ⟨n, 0, Nat.zero_le _, rfl, rfl, by omega, by omega⟩
    case round =>
      obtain ⟨z, k, hk, rfl, rfl, hz0, hz1⟩ := hrel
      by_cases hlt : k < n
      · have a0 := hat.c0 k hlt
        have a1 := hat.c1 k hlt
        have a2 := hat.c2 k hlt
        have a3 := hat.c3 k hlt
        go_wp2
        case roundEnd =>
          go_round
          case rel => exact ⟨_, k + 1, by omega, by go_num, rfl, by omega, by omega⟩
          case measure => simp [intOf]; omega
        all_goals
          go_ret
          exact ⟨IsBool.mk _, rfl⟩
      · go_wp2
        go_ret
        exact ⟨IsBool.mk _, rfl⟩

theorem bytes5_nil (a : Option Addr) (x : Int) (w : World) :
    Calls Try.prog 5 #[.slice a 0 0, .int .i64 x] w fun e w' => IsBool e ∧ w' = w := by
  go_enter Try.func5, Try.ntmps5
  go_wp2
  go_loop [5, 6] (fun t i => t = .int .i64 0 ∧ i = .int .i64 0) (fun _ _ => 0)
  case atStart => exact ⟨rfl, rfl⟩
  case round =>
    obtain ⟨rfl, rfl⟩ := hrel
    go_wp2
    go_ret
    exact ⟨IsBool.mk _, rfl⟩

end Go.Proofs.Qxb6619341a
