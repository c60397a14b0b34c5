import Derived.Test.Qxb6619458aPlain
namespace Go.Proofs.Qxb6619458a
open Go.RowKit

/-! ### A script of decide calls, plainly: 'st j' is the j-th step: a record's number and a tick -/
def seenJ (st : Nat → Nat × Int) : Nat → Nat → Bool
  | 0, _ => false
  | j + 1, k => if k = (st j).1 then true else seenJ st j k
def lastJ (st : Nat → Nat × Int) : Nat → Nat → Int
  | 0, _ => 0
  | j + 1, k => if k = (st j).1 then (st j).2 else lastJ st j k
def RJ (D : Nat → DR) (st : Nat → Nat × Int) (j k : Nat) : Rec :=
  ⟨ByteArray.empty, .slice none 0 0, .slice none 0 0, (D k).cl, (D k).de || seenJ st j k, (D k).ev, if seenJ st j k then Lat.zero else (D k).lat, if seenJ st j k && (D k).ev then lastJ st j k else (D k).h⟩
def gF (D : Nat → DR) (x : Lat) (p : Nat × Int) : Lat := if (D p.1).cl then x else hullL x (D p.1).lat
def gM (D : Nat → DR) (x : Int) (p : Nat × Int) : Int := if (D p.1).cl then x else wrap64 (x + 1)
def FJ (D : Nat → DR) (st : Nat → Nat × Int) (x : Lat) (j : Nat) : Lat := fo (gF D) st x j
def MJ (D : Nat → DR) (st : Nat → Nat × Int) (x : Int) (j : Nat) : Int := fo (gM D) st x j
def EJ (a : Nat → Nat) (D : Nat → DR) (st : Nat → Nat × Int) : Nat → List (Int × Nat)
  | 0 => []
  | j + 1 => if (D (st j).1).ev then EJ a D st j ++ [((st j).2, a (st j).1)] else EJ a D st j

theorem RJ_zero (D : Nat → DR) (st : Nat → Nat × Int) (k : Nat) : RJ D st 0 k = (D k).toRec ByteArray.empty := by
  simp [RJ, seenJ, DR.toRec]

theorem RJ_hit (D : Nat → DR) (st : Nat → Nat × Int) (j : Nat) : RJ D st (j + 1) (st j).1 = dR (RJ D st j (st j).1) (st j).2 := by
  simp only [RJ, dR, seenJ, lastJ, if_true, Bool.or_true, Bool.true_and]
  rcases Bool.eq_false_or_eq_true (D (st j).1).ev with h | h <;> simp [h]

theorem RJ_miss (D : Nat → DR) (st : Nat → Nat × Int) (j k : Nat) (h : k ≠ (st j).1) : RJ D st (j + 1) k = RJ D st j k := by
  simp only [RJ, seenJ, lastJ, if_neg h]

theorem FJ_seen (D : Nat → DR) (st : Nat → Nat × Int) (x : Lat) (j k : Nat) (hs : seenJ st j k = true) (hc : (D k).cl = false) : hullL (FJ D st x j) (D k).lat = FJ D st x j := by
  induction j with
  | zero => simp [seenJ] at hs
  | succ j ih =>
    show hullL (gF D (FJ D st x j) (st j)) (D k).lat = gF D (FJ D st x j) (st j)
    by_cases e : k = (st j).1
    · subst e
      have e2 : gF D (FJ D st x j) (st j) = hullL (FJ D st x j) (D (st j).1).lat := by simp [gF, hc]
      rw [e2]
      exact hullL_idem _ _
    · rw [seenJ, if_neg e] at hs
      have h := ih hs
      unfold gF
      split
      · exact h
      · rw [hullL_comm, h]

theorem FJ_step (D : Nat → DR) (st : Nat → Nat × Int) (x : Lat) (j : Nat) :
    (if (RJ D st j (st j).1).cl then FJ D st x j else hullL (FJ D st x j) (RJ D st j (st j).1).lat) = FJ D st x (j + 1) := by
  show _ = gF D (FJ D st x j) (st j)
  simp only [RJ, gF]
  rcases Bool.eq_false_or_eq_true (D (st j).1).cl with hc | hc
  · simp [hc]
  · rcases Bool.eq_false_or_eq_true (seenJ st j (st j).1) with hs | hs
    · simp [hc, hs, hullL_zero, FJ_seen D st x j _ hs hc]
    · simp [hc, hs]

theorem MJ_step (D : Nat → DR) (st : Nat → Nat × Int) (x : Int) (j : Nat) :
    (if (RJ D st j (st j).1).cl then MJ D st x j else wrap64 (MJ D st x j + 1)) = MJ D st x (j + 1) := rfl

theorem EJ_step (a : Nat → Nat) (D : Nat → DR) (st : Nat → Nat × Int) (j : Nat) : dE (EJ a D st j) (RJ D st j (st j).1) (st j).2 (a (st j).1) = EJ a D st (j + 1) := rfl

theorem EJ_len (a : Nat → Nat) (D : Nat → DR) (st : Nat → Nat × Int) (j : Nat) : (EJ a D st j).length ≤ j := by
  induction j with
  | zero => simp [EJ]
  | succ j ih =>
    rw [EJ]
    split
    · simp only [List.length_append, List.length_cons, List.length_nil]; omega
    · omega

/-- What was queued stays queued, in its place. -/
theorem EJ_keep (a : Nat → Nat) (D : Nat → DR) (st : Nat → Nat × Int) (j m i : Nat) (x : Int × Nat) (hjm : j ≤ m) (h : (EJ a D st j)[i]? = some x) : (EJ a D st m)[i]? = some x := by
  induction m with
  | zero =>
    obtain rfl : j = 0 := by omega
    exact h
  | succ m ih =>
    by_cases e : j = m + 1
    · subst e; exact h
    · have h' := ih (by omega)
      rw [EJ]
      split
      · rw [List.getElem?_append_left (List.getElem?_eq_some_iff.1 h').1]; exact h'
      · exact h'

theorem EJ_at (a : Nat → Nat) (D : Nat → DR) (st : Nat → Nat × Int) (j m : Nat) (hj : j < m) (hev : (D (st j).1).ev = true) : (EJ a D st m)[(EJ a D st j).length]? = some ((st j).2, a (st j).1) := by
  refine EJ_keep a D st (j + 1) m _ _ (by omega) ?_
  rw [EJ, if_pos hev]
  simp

theorem gF_comm (D : Nat → DR) (x : Lat) (b c : Nat × Int) : gF D (gF D x b) c = gF D (gF D x c) b := by
  unfold gF
  split <;> split <;> first | rfl | exact hullL_comm _ _ _
theorem gM_comm (D : Nat → DR) (x : Int) (b c : Nat × Int) : gM D (gM D x b) c = gM D (gM D x c) b := by
  unfold gM
  split <;> split <;> rfl

theorem FJ_rot (D : Nat → DR) (sc : Nat → Nat × Int) (x : Lat) (c m : Nat) (hc : c ≤ m) : FJ D (fun j => sc (rt c m j)) x m = FJ D sc x m := fo_rot (gF D) (gF_comm D) sc x c m hc
theorem MJ_rot (D : Nat → DR) (sc : Nat → Nat × Int) (x : Int) (c m : Nat) (hc : c ≤ m) : MJ D (fun j => sc (rt c m j)) x m = MJ D sc x m := fo_rot (gM D) (gM_comm D) sc x c m hc

/-- The summary behind j steps. -/
def SJ (S : Sum) (D : Nat → DR) (st : Nat → Nat × Int) (j : Nat) (v : Value) : Sum := { S with free := FJ D st S.free j, fm := MJ D st S.fm j, ex := v }

theorem SJ_step (S : Sum) (D : Nat → DR) (st : Nat → Nat × Int) (j : Nat) (v v' : Value) : dS (SJ S D st j v) (RJ D st j (st j).1) v' = SJ S D st (j + 1) v' := by
  have h1 := FJ_step D st S.free j
  have h2 := MJ_step D st S.fm j
  unfold dS SJ
  simp only at h1 h2 ⊢
  rw [h1, h2]

end Go.Proofs.Qxb6619458a
