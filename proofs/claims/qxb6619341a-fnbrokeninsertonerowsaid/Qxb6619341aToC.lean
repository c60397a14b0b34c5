import Derived.Test.Qxb6619341aBase
import Derived.Deep.OwnRows
namespace Go.Proofs.Qxb6619341a
open Go.RowKit

def cellOf (r : R) : Nat → Value
  | 0 => .string r.s0
  | 1 => .string r.s1
  | 2 => .string r.s2
  | 3 => .string r.s3
  | _ => .bool r.h
def flatOf (L : Nat → R) (j : Nat) : Value := cellOf (L (j / 5)) (j % 5)

theorem flat_at (L : Nat → R) (i c : Nat) (h : c < 5) : flatOf L (i * 5 + c) = cellOf (L i) c := by
  unfold flatOf
  rw [show (i * 5 + c) / 5 = i from by omega, show (i * 5 + c) % 5 = c from by omega]

theorem At.ofRow {w : World} {g n : Nat} {L : Nat → R} (h : w.rowIs g 30 (n * 5) (flatOf L)) : At w g 0 n L := by
  have key : ∀ i c, i < n → c < 5 → w.cell? ⟨g, 0 + i * 5 + c, none⟩ = some (cellOf (L i) c) := fun i c hi hc => by
    rw [Nat.zero_add, h.cell (by omega), flat_at L i c hc]
  exact ⟨fun i hi => key i 0 hi (by omega), fun i hi => key i 1 hi (by omega), fun i hi => key i 2 hi (by omega), fun i hi => key i 3 hi (by omega), fun i hi => key i 4 hi (by omega)⟩

def zRow : Array Value := #[.string ByteArray.empty, .string ByteArray.empty, .string ByteArray.empty, .string ByteArray.empty, .bool false]
theorem Try.info30 : (Try.prog.info? 30).map (fun i => (i.zero, i.size, i.bytes)) = some (some (.agg zRow), 5, 72) := by kernel_rfl

def zeros (n : Nat) : Array Value := madeCells zRow n

theorem make_rows (l n : Nat) (hl : l ≤ n) (hn : n ≤ 2000000000001) (w : World) :
    (Instr.makeSlice 26 (.int .i64 (l : Int)) (.int .i64 (n : Int))).run Try.prog w = .ok (.slice (some ⟨w.heap.size, 0, none⟩) l n) (w.alloc (.cells (zeros (n * 5)) 30)) := by
  obtain ⟨i, hi, hzz⟩ := Option.map_eq_some_iff.1 Try.info30
  simp only [Prod.mk.injEq] at hzz
  obtain ⟨hz, hs, hb⟩ := hzz
  have := run_make (P := Try.prog) w 26 30 i _ Try.underlying26 hi hz .i64 .i64 l n (by omega) (by omega) (by rw [hb]; omega) (by omega)
  rw [this, hs]
  rfl

theorem rowIs_zeros (w : World) (n : Nat) : ∃ f, (w.alloc (.cells (zeros n) 30)).rowIs w.heap.size 30 n f := by
  refine ⟨fun j => (zeros n).getD j undef, ?_⟩
  have := World.rowIs_alloc w (zeros n) 30 (fun j => (zeros n).getD j undef) (fun i hi => by simp [Array.getD, hi])
  rwa [show (zeros n).size = n from size_madeCells _ _] at this

/-- One element of five cells, stored. -/
theorem row_step {w : World} {g n k : Nat} {L : Nat → R} {f : Nat → Value} (r : R) (hr : L k = r) (h : w.rowIs g 30 (n * 5) f) (hf : ∀ j, j < k * 5 → f j = flatOf L j) :
    ∃ f', (((((w.setCell ⟨g, k * 5, none⟩ (.string r.s0)).setCell ⟨g, k * 5 + 1, none⟩ (.string r.s1)).setCell ⟨g, k * 5 + 2, none⟩ (.string r.s2)).setCell ⟨g, k * 5 + 3, none⟩ (.string r.s3)).setCell ⟨g, k * 5 + 4, none⟩ (.bool r.h)).rowIs g 30 (n * 5) f' ∧
      ∀ j, j < (k + 1) * 5 → f' j = flatOf L j := by
  subst hr
  refine ⟨_, ((((h.set (k * 5) _).set (k * 5 + 1) _).set (k * 5 + 2) _).set (k * 5 + 3) _).set (k * 5 + 4) _, ?_⟩
  intro j hj
  by_cases e4 : j = k * 5 + 4
  · subst e4; rw [flat_at _ _ _ (by omega)]; simp [cellOf]
  by_cases e3 : j = k * 5 + 3
  · subst e3; rw [flat_at _ _ _ (by omega)]; simp [cellOf]
  by_cases e2 : j = k * 5 + 2
  · subst e2; rw [flat_at _ _ _ (by omega)]; simp [cellOf]
  by_cases e1 : j = k * 5 + 1
  · subst e1; rw [flat_at _ _ _ (by omega)]; simp [cellOf]
  by_cases e0 : j = k * 5
  · subst e0; have := flat_at L k 0 (by omega); simp [cellOf] at this; simp [this]
  simp only [e0, e1, e2, e3, e4, if_false]
  exact hf j (by omega)

theorem below_five {B : Nat} {w0 w : World} {g k : Nat} (v0 v1 v2 v3 v4 : Value) (h : Below B w0 w) (hg : B ≤ g) :
    Below B w0 (((((w.setCell ⟨g, k * 5, none⟩ v0).setCell ⟨g, k * 5 + 1, none⟩ v1).setCell ⟨g, k * 5 + 2, none⟩ v2).setCell ⟨g, k * 5 + 3, none⟩ v3).setCell ⟨g, k * 5 + 4, none⟩ v4) :=
  ((((h.setCell (p := ⟨g, _, none⟩) hg _).setCell (p := ⟨g, _, none⟩) hg _).setCell (p := ⟨g, _, none⟩) hg _).setCell (p := ⟨g, _, none⟩) hg _).setCell (p := ⟨g, _, none⟩) hg _

end Go.Proofs.Qxb6619341a
