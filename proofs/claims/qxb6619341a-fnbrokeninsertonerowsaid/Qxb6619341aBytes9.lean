import Derived.Test.Qxb6619341aBase
namespace Go.Proofs.Qxb6619341a
open Go.RowKit

set_option maxRecDepth 100000 in
set_option maxHeartbeats 2000000 in
theorem bytes9_any (b off n c : Nat) (x : Int) (r : R) (L : Nat → R) (w : World) (hn : n ≤ 9223372036854775807) (hb : b < w.heap.size) (hat : At w b off n L) :
    Calls Try.prog 9 #[.slice (some ⟨b, off, none⟩) n c, .int .i64 x, .agg #[.string r.s0, .string r.s1, .string r.s2, .string r.s3, .bool r.h]] w fun e w' => IsBool e ∧ Below w.heap.size w w' := by
  have hB : Below w.heap.size w (w.alloc (.cells #[.string r.s0, .string r.s1, .string r.s2, .string r.s3, .bool r.h] 31)) := (Below.refl _ _).alloc (Nat.le_refl _) _
  have hat' := hat.below hB hb
  go_enter Try.func9, Try.ntmps9
  go_wp2
  · go_ret
    exact ⟨IsBool.mk _, hB⟩
  · go_loop [7, 8] (fun t i => ∃ (z : Int) (k : Nat), k ≤ n ∧ i = .int .i64 k ∧ t = .int .i64 z ∧ 0 ≤ z ∧ z ≤ 1048576) (fun _ i => n - (intOf i).toNat)
    case atStart => exact ⟨n, 0, Nat.zero_le _, rfl, rfl, by omega, by omega⟩
    case round =>
      obtain ⟨z, k, hk, rfl, rfl, hz0, hz1⟩ := hrel
      by_cases hlt : k < n
      · have a0 := hat'.c0 k hlt
        have a1 := hat'.c1 k hlt
        have a2 := hat'.c2 k hlt
        have a3 := hat'.c3 k hlt
        clear hat hat'
        go_wp2
        case roundEnd =>
          go_round
          case rel => exact ⟨_, k + 1, by omega, by go_num, rfl, by omega, by omega⟩
          case measure => simp [intOf]; omega
        all_goals
          go_ret
          exact ⟨IsBool.mk _, hB⟩
      · clear hat hat'
        go_wp2
        all_goals
          go_ret
          exact ⟨IsBool.mk _, hB⟩

set_option maxRecDepth 100000 in
set_option maxHeartbeats 2000000 in
theorem bytes9_nil (a : Option Addr) (x : Int) (r : R) (w : World) :
    Calls Try.prog 9 #[.slice a 0 0, .int .i64 x, .agg #[.string r.s0, .string r.s1, .string r.s2, .string r.s3, .bool r.h]] w fun e w' => IsBool e ∧ Below w.heap.size w w' := by
  have hB : Below w.heap.size w (w.alloc (.cells #[.string r.s0, .string r.s1, .string r.s2, .string r.s3, .bool r.h] 31)) := (Below.refl _ _).alloc (Nat.le_refl _) _
  go_enter Try.func9, Try.ntmps9
  go_wp2
  go_loop [7, 8] (fun t i => t = .int .i64 0 ∧ i = .int .i64 0) (fun _ _ => 0)
  case atStart => exact ⟨rfl, rfl⟩
  case round =>
    obtain ⟨rfl, rfl⟩ := hrel
    go_wp2
    all_goals
      go_ret
      exact ⟨IsBool.mk _, hB⟩

end Go.Proofs.Qxb6619341a
