import Derived.Test.Qxb6619341aBase
namespace Go.Proofs.Qxb6619341a
open Go.RowKit

theorem brk_of (L : Nat → R) (k n : Nat) (hk : k < n) (h : (!(L k).h) = true) : brk L n = true := by
  induction n with
  | zero => omega
  | succ n ih =>
    by_cases e : k = n
    · subst e; simp only [brk, h, Bool.or_true]
    · simp only [brk, ih (by omega), Bool.true_or]

set_option maxHeartbeats 400000 in
theorem broken_any (b off n c : Nat) (L : Nat → R) (w : World) (hn : n ≤ 2000000000000) (hb : b < w.heap.size) (hat : At w b off n L) :
    Calls Try.prog 8 #[.slice (some ⟨b, off, none⟩) n c] w fun e w' => e = .returned (.bool (brk L n)) ∧ Below w.heap.size w w' := by
  go_enter Try.func8, Try.ntmps8
  go_wp2
  go_loopw [7] (fun i wr => ∃ k : Nat, k ≤ n ∧ i = .int .i64 k ∧ brk L k = false ∧ Below w.heap.size w wr) (fun i _ => n - (intOf i).toNat)
  case atStart => exact ⟨0, Nat.zero_le _, rfl, rfl, Below.refl _ _⟩
  case round =>
    obtain ⟨k, hk, rfl, hbr, hnx⟩ := hrel
    by_cases hlt : k < n
    · have a0 := (hat.below hnx hb).c0 k hlt
      have a1 := (hat.below hnx hb).c1 k hlt
      have a2 := (hat.below hnx hb).c2 k hlt
      have a3 := (hat.below hnx hb).c3 k hlt
      have a4 := (hat.below hnx hb).c4 k hlt
      go_wp2
      · have h1 : (!(L k).h) = true := by assumption
        go_ret
        exact ⟨ret_bool (brk_of L k n hlt h1).symm, hnx.alloc hnx.size _⟩
      · have h1 : (!(L k).h) = false := by assumption
        refine ⟨⟨k + 1, by omega, by go_num, by simp only [brk, hbr, h1, Bool.or_false], hnx.alloc hnx.size _⟩, by simp [intOf]; omega⟩
    · obtain rfl : k = n := by omega
      go_wp2
      go_ret
      exact ⟨ret_bool hbr.symm, hnx⟩

theorem broken_nil (w : World) :
    Calls Try.prog 8 #[.slice none 0 0] w fun e w' => e = .returned (.bool false) ∧ Below w.heap.size w w' := by
  go_enter Try.func8, Try.ntmps8
  go_wp2
  go_loopw [7] (fun i wr => i = .int .i64 0 ∧ Below w.heap.size w wr) (fun _ _ => 0)
  case atStart => exact ⟨rfl, Below.refl _ _⟩
  case round =>
    obtain ⟨rfl, hnx⟩ := hrel
    go_wp2
    go_ret
    exact ⟨rfl, hnx⟩

end Go.Proofs.Qxb6619341a
