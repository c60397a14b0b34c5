import Derived.Test.Qxb6619341aToC
import Derived.Lib.SliceRun
namespace Go.Proofs.Qxb6619341a
open Go.RowKit

set_option maxRecDepth 100000 in
set_option maxHeartbeats 1000000 in
theorem toC_any (b off n c : Nat) (L : Nat → R) (w : World) (hn : n ≤ 2000000000000) (hb : b < w.heap.size) (hat : At w b off n L) :
    Calls Try.prog 7 #[.slice (some ⟨b, off, none⟩) n c] w fun e w' => e = .returned (.slice (some ⟨w.heap.size, 0, none⟩) n n) ∧ w'.rowIs w.heap.size 30 (n * 5) (flatOf L) ∧ Below w.heap.size w w' := by
  have hq : ∀ (w : World) (a : Option Addr) (n c : Nat), (binOp .eql 22 (.slice a n c) (.slice none 0 0)).run Try.prog w = .ok (.bool a.isNone) w := fun w a n c => Lib.run_eql_slice_nil w _ _ a n c 0 0 Try.underlying22
  have hmk := make_rows n n (Nat.le_refl _) (by omega)
  go_enter Try.func7, Try.ntmps7
  go_wp2
  go_loopw [4] (fun i wr => ∃ (k : Nat) (f : Nat → Value), k ≤ n ∧ i = .int .i64 k ∧ wr.rowIs w.heap.size 30 (n * 5) f ∧ (∀ j, j < k * 5 → f j = flatOf L j) ∧ Below w.heap.size w wr) (fun i _ => n - (intOf i).toNat)
  case atStart =>
    obtain ⟨f, hf⟩ := rowIs_zeros w (n * 5)
    exact ⟨0, f, Nat.zero_le _, rfl, hf, fun j hj => by omega, (Below.refl _ _).alloc (Nat.le_refl _) _⟩
  case round =>
    obtain ⟨k, f, hk, rfl, hrow, hf, hnx⟩ := hrel
    clear hmk hq
    by_cases hlt : k < n
    · have a0 := (hat.below hnx hb).c0 k hlt
      have a1 := (hat.below hnx hb).c1 k hlt
      have a2 := (hat.below hnx hb).c2 k hlt
      have a3 := (hat.below hnx hb).c3 k hlt
      have a4 := (hat.below hnx hb).c4 k hlt
      have g0 := hrow.cell (i := k * 5) (by omega)
      have g1 := hrow.cell (i := k * 5 + 1) (by omega)
      have g2 := hrow.cell (i := k * 5 + 2) (by omega)
      have g3 := hrow.cell (i := k * 5 + 3) (by omega)
      have g4 := hrow.cell (i := k * 5 + 4) (by omega)
      have f0 := hrow.frozen (k * 5)
      have f1 := hrow.frozen (k * 5 + 1)
      have f2 := hrow.frozen (k * 5 + 2)
      have f3 := hrow.frozen (k * 5 + 3)
      have f4 := hrow.frozen (k * 5 + 4)
      go_wp2
      obtain ⟨f', hrow', hf'⟩ := row_step (L k) rfl hrow hf
      go_roundw
      case rel => exact ⟨k + 1, f', by omega, by go_num, hrow', hf', below_five _ _ _ _ _ hnx (Nat.le_refl _)⟩
      case measure => simp [intOf]; omega
    · go_wp2
      go_ret
      obtain rfl : k = n := by omega
      exact ⟨rfl, hrow.congr hf, hnx⟩

theorem toC_nil (w : World) :
    Calls Try.prog 7 #[.slice none 0 0] w fun e w' => e = .returned (.slice none 0 0) ∧ w' = w := by
  have hq : ∀ (w : World) (a : Option Addr) (n c : Nat), (binOp .eql 22 (.slice a n c) (.slice none 0 0)).run Try.prog w = .ok (.bool a.isNone) w := fun w a n c => Lib.run_eql_slice_nil w _ _ a n c 0 0 Try.underlying22
  go_enter Try.func7, Try.ntmps7
  go_wp2
  go_ret
  exact ⟨rfl, rfl⟩

theorem toC_zero (a : Addr) (w : World) :
    Calls Try.prog 7 #[.slice (some a) 0 0] w fun e w' => e = .returned (.slice (some ⟨w.heap.size, 0, none⟩) 0 0) ∧ w.heap.size < w'.heap.size ∧ Below w.heap.size w w' := by
  have hq : ∀ (w : World) (a : Option Addr) (n c : Nat), (binOp .eql 22 (.slice a n c) (.slice none 0 0)).run Try.prog w = .ok (.bool a.isNone) w := fun w a n c => Lib.run_eql_slice_nil w _ _ a n c 0 0 Try.underlying22
  have hmk := make_rows 0 0 (Nat.le_refl _) (by omega)
  simp only [Int.natCast_zero, Nat.zero_mul] at hmk
  go_enter Try.func7, Try.ntmps7
  go_wp2
  go_loopw [4] (fun i wr => i = .int .i64 0 ∧ w.heap.size < wr.heap.size ∧ Below w.heap.size w wr) (fun _ _ => 0)
  case atStart => exact ⟨rfl, by simp, (Below.refl _ _).alloc (Nat.le_refl _) _⟩
  case round =>
    obtain ⟨rfl, hz, hnx⟩ := hrel
    go_wp2
    go_ret
    exact ⟨rfl, hz, hnx⟩

end Go.Proofs.Qxb6619341a
