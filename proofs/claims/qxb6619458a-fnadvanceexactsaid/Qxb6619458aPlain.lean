import Derived.Test.Qxb6619458aDecide
import Derived.Test.Qxb6619458aMake
namespace Go.Proofs.Qxb6619458a
open Go.RowKit

/-! ### Folds by the index -/
def fo {α β : Type} (g : α → β → α) (st : Nat → β) (x : α) : Nat → α
  | 0 => x
  | j + 1 => g (fo g st x j) (st j)

theorem fo_add {α β : Type} (g : α → β → α) (st : Nat → β) (x : α) (a b : Nat) : fo g st x (a + b) = fo g (fun i => st (a + i)) (fo g st x a) b := by
  induction b with
  | zero => rfl
  | succ b ih => rw [show a + (b + 1) = (a + b) + 1 from rfl, fo, ih, fo]

theorem fo_congr {α β : Type} (g : α → β → α) (s t : Nat → β) (x : α) (n : Nat) (h : ∀ i, i < n → s i = t i) : fo g s x n = fo g t x n := by
  induction n with
  | zero => rfl
  | succ n ih => rw [fo, fo, ih (fun i hi => h i (by omega)), h n (by omega)]

theorem fo_one {α β : Type} (g : α → β → α) (hg : ∀ x b c, g (g x b) c = g (g x c) b) (st : Nat → β) (x : α) (b : β) (n : Nat) : g (fo g st x n) b = fo g st (g x b) n := by
  induction n with
  | zero => rfl
  | succ n ih => rw [fo, fo, hg, ih]

theorem fo_swap {α β : Type} (g : α → β → α) (hg : ∀ x b c, g (g x b) c = g (g x c) b) (s t : Nat → β) (x : α) (a b : Nat) : fo g s (fo g t x b) a = fo g t (fo g s x a) b := by
  induction a with
  | zero => rfl
  | succ a ih => rw [fo, ih, fo_one g hg t _ _ b]; rfl

/-- The index that rot gives. -/
def rt (c n j : Nat) : Nat := if n ≤ c + j then c + j - n else c + j

theorem rt_lt (c n j : Nat) (hc : c ≤ n) (hj : j < n) : rt c n j < n := by unfold rt; split <;> omega

/-- A fold over the turned script is the fold over the script. -/
theorem fo_rot {α β : Type} (g : α → β → α) (hg : ∀ x b c, g (g x b) c = g (g x c) b) (sc : Nat → β) (x : α) (c n : Nat) (hc : c ≤ n) : fo g (fun j => sc (rt c n j)) x n = fo g sc x n := by
  have e1 : fo g (fun j => sc (rt c n j)) x n = fo g (fun i => sc i) (fo g (fun i => sc (c + i)) x (n - c)) c := by
    have h := fo_add g (fun j => sc (rt c n j)) x (n - c) c
    rw [show n - c + c = n from by omega] at h
    rw [h, fo_congr g (fun j => sc (rt c n j)) (fun i => sc (c + i)) x (n - c) (fun i hi => by
      show sc (rt c n i) = _
      rw [rt, if_neg (by omega)])]
    refine fo_congr g _ _ _ c (fun i hi => ?_)
    show sc (rt c n (n - c + i)) = sc i
    rw [rt, if_pos (by omega), show c + (n - c + i) - n = i from by omega]
  have e2 : fo g sc x n = fo g (fun i => sc (c + i)) (fo g sc x c) (n - c) := by
    have h := fo_add g sc x c (n - c)
    rwa [show c + (n - c) = n from by omega] at h
  rw [e1, e2]
  exact fo_swap g hg _ _ x c (n - c)

/-! ### Hulls -/
theorem hullS_comm (x0 x1 : Int) (xa : Bool) (b0 b1 : Int) (ba : Bool) (c0 c1 : Int) (ca : Bool) :
    hullS (hullS x0 x1 xa b0 b1 ba).1 (hullS x0 x1 xa b0 b1 ba).2.1 (hullS x0 x1 xa b0 b1 ba).2.2 c0 c1 ca =
    hullS (hullS x0 x1 xa c0 c1 ca).1 (hullS x0 x1 xa c0 c1 ca).2.1 (hullS x0 x1 xa c0 c1 ca).2.2 b0 b1 ba := by
  cases xa <;> cases ba <;> cases ca <;> simp [hullS] <;> omega

theorem hullL_comm (x b c : Lat) : hullL (hullL x b) c = hullL (hullL x c) b := by
  have h1 := hullS_comm x.l0 x.l1 x.la b.l0 b.l1 b.la c.l0 c.l1 c.la
  have h2 := hullS_comm x.f0 x.f1 x.fa b.f0 b.f1 b.fa c.f0 c.f1 c.fa
  simp only [hullL]
  rw [h1, h2]

theorem hullS_idem (x0 x1 : Int) (xa : Bool) (b0 b1 : Int) (ba : Bool) :
    hullS (hullS x0 x1 xa b0 b1 ba).1 (hullS x0 x1 xa b0 b1 ba).2.1 (hullS x0 x1 xa b0 b1 ba).2.2 b0 b1 ba = hullS x0 x1 xa b0 b1 ba := by
  cases xa <;> cases ba <;> simp [hullS] <;> omega

theorem hullL_idem (x b : Lat) : hullL (hullL x b) b = hullL x b := by
  have h1 := hullS_idem x.l0 x.l1 x.la b.l0 b.l1 b.la
  have h2 := hullS_idem x.f0 x.f1 x.fa b.f0 b.f1 b.fa
  simp only [hullL]
  rw [h1, h2]

theorem hullL_zero (x : Lat) : hullL x Lat.zero = x := by
  obtain ⟨a, b, c, d, e, f⟩ := x
  simp [hullL, hullS, Lat.zero]

end Go.Proofs.Qxb6619458a
