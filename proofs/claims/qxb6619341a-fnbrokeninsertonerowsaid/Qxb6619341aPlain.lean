import Derived.Test.Qxb6619341aToCW
import Derived.Test.Qxb6619341aBroken
namespace Go.Proofs.Qxb6619341a
open Go.RowKit

theorem brk_add (L : Nat → R) (a b : Nat) : brk L (a + b) = (brk L a || brk (fun i => L (a + i)) b) := by
  induction b with
  | zero => simp [brk]
  | succ b ih => rw [show a + (b + 1) = (a + b) + 1 from rfl, brk, ih, brk, Bool.or_assoc]

theorem brk_congr (L M : Nat → R) (n : Nat) (h : ∀ i, i < n → (L i).h = (M i).h) : brk L n = brk M n := by
  induction n with
  | zero => rfl
  | succ n ih => rw [brk, brk, ih (fun i hi => h i (by omega)), h n (by omega)]

theorem brk_clean (L : Nat → R) (n : Nat) (h : ∀ i, i < n → (L i).h = true) : brk L n = false := by
  induction n with
  | zero => rfl
  | succ n ih => rw [brk, ih (fun i hi => h i (by omega)), h n (by omega)]; rfl

/-- The first k rows made to hold. -/
def clr (L : Nat → R) (k : Nat) (i : Nat) : R := if i < k then { L i with h := true } else L i
/-- Row k made to fail. -/
def mrk (L : Nat → R) (k : Nat) (i : Nat) : R := if i = k then { L i with h := false } else L i
/-- Row r laid in at k. -/
def ins (L : Nat → R) (k : Nat) (r : R) (i : Nat) : R := if i < k then L i else if i = k then r else L (i - 1)

theorem clr_zero (L : Nat → R) : clr L 0 = L := by funext i; simp [clr]

theorem brk_clr (L : Nat → R) (n : Nat) : brk (clr L n) n = false := brk_clean _ _ fun i hi => by simp [clr, hi]
theorem brk_mrk (L : Nat → R) (k n : Nat) (hk : k < n) : brk (mrk L k) n = true := brk_of _ k n hk (by simp [mrk])
theorem brk_ins (L : Nat → R) (k n : Nat) (r : R) (hk : k ≤ n) : brk (ins L k r) (n + 1) = (brk L n || !r.h) := by
  obtain ⟨d, rfl⟩ : ∃ d, n = k + d := ⟨n - k, by omega⟩
  rw [show k + d + 1 = k + (1 + d) from by omega, brk_add, brk_add _ 1 d, brk_add L k d]
  rw [brk_congr (ins L k r) L k (fun i hi => by simp [ins, hi])]
  rw [brk_congr (fun i => ins L k r (k + (1 + i))) (fun i => L (k + i)) d (fun i _ => by
    have h1 : ¬ (k + (1 + i) < k) := by omega
    have h2 : ¬ (k + (1 + i) = k) := by omega
    have h3 : k + (1 + i) - 1 = k + i := by omega
    simp only [ins, h1, h2, h3, if_false])]
  have e : brk (fun i => ins L k r (k + i)) 1 = !r.h := by simp [brk, ins]
  rw [e]
  cases brk L k <;> cases brk (fun i => L (k + i)) d <;> cases r.h <;> rfl

theorem row_below {B : Nat} {w w' : World} {g t n : Nat} {f : Nat → Value} (h : w.rowIs g t n f) (hb : Below B w w') (hg : g < B) : w'.rowIs g t n f := h.of_block (hb.block g hg)

theorem row_clr {w : World} {g n k : Nat} {L : Nat → R} (h : w.rowIs g 30 (n * 5) (flatOf (clr L k))) :
    (w.setCell ⟨g, k * 5 + 4, none⟩ (.bool true)).rowIs g 30 (n * 5) (flatOf (clr L (k + 1))) := by
  refine (h.set (k * 5 + 4) (.bool true)).congr ?_
  intro j _
  show (if j = k * 5 + 4 then Value.bool true else flatOf (clr L k) j) = flatOf (clr L (k + 1)) j
  by_cases e : j = k * 5 + 4
  · subst e
    rw [if_pos rfl, flat_at _ _ _ (by omega)]
    simp [cellOf, clr]
  · rw [if_neg e]
    unfold flatOf
    by_cases e5 : j / 5 = k
    · rw [e5]
      have h4 : j % 5 = 0 ∨ j % 5 = 1 ∨ j % 5 = 2 ∨ j % 5 = 3 := by omega
      rcases h4 with h4 | h4 | h4 | h4 <;> rw [h4] <;> simp [cellOf, clr]
    · have : clr L k (j / 5) = clr L (k + 1) (j / 5) := by
        unfold clr
        by_cases h1 : j / 5 < k
        · rw [if_pos h1, if_pos (by omega)]
        · rw [if_neg h1, if_neg (by omega)]
      rw [this]

theorem row_mrk {w : World} {g n k : Nat} {L : Nat → R} (h : w.rowIs g 30 (n * 5) (flatOf L)) :
    (w.setCell ⟨g, k * 5 + 4, none⟩ (.bool false)).rowIs g 30 (n * 5) (flatOf (mrk L k)) := by
  refine (h.set (k * 5 + 4) (.bool false)).congr ?_
  intro j _
  show (if j = k * 5 + 4 then Value.bool false else flatOf L j) = flatOf (mrk L k) j
  by_cases e : j = k * 5 + 4
  · subst e
    rw [if_pos rfl, flat_at _ _ _ (by omega)]
    simp [cellOf, mrk]
  · rw [if_neg e]
    unfold flatOf
    by_cases e5 : j / 5 = k
    · rw [e5]
      have h4 : j % 5 = 0 ∨ j % 5 = 1 ∨ j % 5 = 2 ∨ j % 5 = 3 := by omega
      rcases h4 with h4 | h4 | h4 | h4 <;> rw [h4] <;> simp [cellOf, mrk]
    · rw [show mrk L k (j / 5) = L (j / 5) from by simp [mrk, e5]]

theorem At.left {w : World} {b off n : Nat} {L : Nat → R} (h : At w b off n L) (k : Nat) (hk : k ≤ n) : At w b off k L :=
  ⟨fun i hi => h.c0 i (by omega), fun i hi => h.c1 i (by omega), fun i hi => h.c2 i (by omega), fun i hi => h.c3 i (by omega), fun i hi => h.c4 i (by omega)⟩

theorem At.right {w : World} {b off n : Nat} {L : Nat → R} (h : At w b off n L) (k : Nat) (hk : k ≤ n) : At w b (off + k * 5) (n - k) (fun i => L (k + i)) := by
  have e : ∀ i, off + k * 5 + i * 5 = off + (k + i) * 5 := fun i => by omega
  exact ⟨fun i hi => by rw [e]; exact h.c0 (k + i) (by omega), fun i hi => by rw [e]; exact h.c1 (k + i) (by omega), fun i hi => by rw [e]; exact h.c2 (k + i) (by omega),
    fun i hi => by rw [e]; exact h.c3 (k + i) (by omega), fun i hi => by rw [e]; exact h.c4 (k + i) (by omega)⟩

theorem At.none {w : World} {b off n : Nat} {L : Nat → R} (h : n = 0) : At w b off n L :=
  ⟨fun i hi => by omega, fun i hi => by omega, fun i hi => by omega, fun i hi => by omega, fun i hi => by omega⟩

theorem chain {a b c : World} (h : Below a.heap.size a b) (k : Below b.heap.size b c) : Below a.heap.size a c := h.trans (k.mono h.size)

end Go.Proofs.Qxb6619341a
