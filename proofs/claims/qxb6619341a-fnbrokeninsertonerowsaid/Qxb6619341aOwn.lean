import Derived.Test.Qxb6619341aPlain
namespace Go.Proofs.Qxb6619341a
open Go.RowKit

def cellsOf (r : R) : List Value := [.string r.s0, .string r.s1, .string r.s2, .string r.s3, .bool r.h]
def fl (L : Nat → R) : Nat → List Value
  | 0 => []
  | k + 1 => fl L k ++ cellsOf (L k)

theorem fl_len (L : Nat → R) (k : Nat) : (fl L k).length = k * 5 := by
  induction k with
  | zero => rfl
  | succ k ih => rw [fl, List.length_append, ih]; simp [cellsOf]; omega

theorem cells_at (r : R) (c : Nat) (hc : c < 5) : (cellsOf r)[c]? = some (cellOf r c) := by
  have : c = 0 ∨ c = 1 ∨ c = 2 ∨ c = 3 ∨ c = 4 := by omega
  rcases this with rfl | rfl | rfl | rfl | rfl <;> rfl

theorem fl_at (L : Nat → R) (k i c : Nat) (hi : i < k) (hc : c < 5) : (fl L k)[i * 5 + c]? = some (cellOf (L i) c) := by
  induction k with
  | zero => omega
  | succ k ih =>
    rw [fl]
    by_cases e : i < k
    · rw [List.getElem?_append_left (by rw [fl_len]; omega)]
      exact ih e
    · obtain rfl : i = k := by omega
      rw [List.getElem?_append_right (by rw [fl_len]; omega), fl_len, show i * 5 + c - i * 5 = c from by omega]
      exact cells_at _ _ hc

theorem at_of_own {w : World} {base m : Nat} {v : Value} {M : Nat → R} (h : w.ownsRow base 30 5 v m (fl M m)) (hm : 0 < m) :
    ∃ g cap, v = .slice (some ⟨g, 0, none⟩) m cap ∧ g < w.heap.size ∧ At w g 0 m M := by
  have h' := h
  obtain ⟨_, hc⟩ := h
  rcases hc with ⟨_, h0⟩ | ⟨g, cap, cur, rfl, hg, hh, _⟩
  · omega
  · have hz := (h'.lt g rfl).2
    have key : ∀ i c, i < m → c < 5 → w.cell? ⟨g, 0 + i * 5 + c, none⟩ = some (cellOf (M i) c) := fun i c hi hc => by
      have := h'.cells (g := g) rfl (i * 5 + c) _ (fl_at M m i c hi hc)
      rw [show (⟨g, 0 + i * 5 + c, none⟩ : Addr) = (⟨g, 0, none⟩ : Addr).add (i * 5 + c) from by unfold Addr.add; split <;> simp_all]
      exact this
    exact ⟨g, cap, rfl, hz, fun i hi => key i 0 hi (by omega), fun i hi => key i 1 hi (by omega), fun i hi => key i 2 hi (by omega), fun i hi => key i 3 hi (by omega), fun i hi => key i 4 hi (by omega)⟩

theorem one_cells (r : R) : ∀ u ∈ cellsOf r, u.oneCell' = true := by
  intro u hu
  simp [cellsOf] at hu
  rcases hu with rfl | rfl | rfl | rfl | rfl <;> rfl

theorem new_cells (w : World) (r : R) : ∀ j u, (cellsOf r)[j]? = some u → (w.alloc (.cells #[.string r.s0, .string r.s1, .string r.s2, .string r.s3, .bool r.h] 30)).cell? ((⟨w.heap.size, 0, none⟩ : Addr).add j) = some u := by
  intro j u hj
  have hadd : (⟨w.heap.size, 0, none⟩ : Addr).add j = ⟨w.heap.size, j, none⟩ := by unfold Addr.add; split <;> simp_all
  rw [hadd, cell_of_row _ w.heap.size j _ 30 (0, 0) (heap_alloc_new w _)]
  simpa [cellsOf] using hj

/-- What one append of a row leaves. -/
theorem own_step {w0 w w1 : World} {g q cap : Nat} {r : R} {M : Nat → R} (hM : M q = r) (hnx : Below w0.heap.size w0 w) (hg : g = w0.heap.size)
    (hown' : w1.ownsRow w0.heap.size 30 5 (.slice (some ⟨g, 0, none⟩) (q + 1) cap) (q + 1) (fl M q ++ cellsOf r))
    (hgr : (w.alloc (.cells #[.string r.s0, .string r.s1, .string r.s2, .string r.s3, .bool r.h] 30)).grownBy w1 (some g)) :
    w1.ownsRow w0.heap.size 30 5 (.slice (some ⟨g, 0, none⟩) (q + 1) cap) (q + 1) (fl M (q + 1)) ∧ Below w0.heap.size w0 w1 := by
  subst hM
  refine ⟨hown', ?_⟩
  have z := hnx.size
  refine (hnx.alloc z _).grown hgr (by simp; omega) (fun k hk => ?_)
  simp only [Option.some.injEq] at hk
  omega

end Go.Proofs.Qxb6619341a
