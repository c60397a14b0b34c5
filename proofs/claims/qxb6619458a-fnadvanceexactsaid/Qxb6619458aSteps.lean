import Derived.Test.Qxb6619458aMem
namespace Go.Proofs.Qxb6619458a
open Go.RowKit

theorem Fr.toBelow {O : Nat → Prop} {w w1 wr : World} (h : Below w.heap.size w w1) (f : Fr O w1 wr) (hO : ∀ i, i < w.heap.size → ¬ O i) : Below w.heap.size w wr :=
  ⟨f.os.trans h.os, f.tape.trans h.tape, f.output.trans h.output, Nat.le_trans h.size f.size, fun i hi => (f.block i (Nat.lt_of_lt_of_le hi h.size) (hO i hi)).trans (h.block i hi)⟩

/-- Six cells of latencies, laid. -/
theorem put6 {w : World} {b : Nat} {l : Lat} (l' : Lat) (h : Blk w b l.cells 66) :
    Blk ((((((w.setCell ⟨b, 0, none⟩ (.int .i64 l'.l0)).setCell ⟨b, 1, none⟩ (.int .i64 l'.l1)).setCell ⟨b, 2, none⟩ (.bool l'.la)).setCell ⟨b, 3, none⟩ (.int .i64 l'.f0)).setCell ⟨b, 4, none⟩ (.int .i64 l'.f1)).setCell ⟨b, 5, none⟩ (.bool l'.fa)) b l'.cells 66 ∧
    Fr (· = b) w ((((((w.setCell ⟨b, 0, none⟩ (.int .i64 l'.l0)).setCell ⟨b, 1, none⟩ (.int .i64 l'.l1)).setCell ⟨b, 2, none⟩ (.bool l'.la)).setCell ⟨b, 3, none⟩ (.int .i64 l'.f0)).setCell ⟨b, 4, none⟩ (.int .i64 l'.f1)).setCell ⟨b, 5, none⟩ (.bool l'.fa)) :=
  ⟨(((((h.set 0 _).set 1 _).set 2 _).set 3 _).set 4 _).set 5 _, ((((((Fr.refl _ _).setAt _ _).setAt _ _).setAt _ _).setAt _ _).setAt _ _).setAt _ _⟩

theorem newD_two (id : ByteArray) (d : DR) (w : World) :
    Calls Try.prog 37 #[.string id, .agg d.cells] w fun e w' => ∃ g, e = .returned (.pointer (some ⟨g, 0, none⟩)) ∧ w.heap.size ≤ g ∧ Blk w' g (d.toRec id).cells 99 ∧ Below w.heap.size w w' := by
  refine (newD_any id d w).mono ?_
  rintro e w' ⟨rfl, rfl⟩
  refine ⟨_, rfl, Nat.le_succ _, ?_, ((Below.refl _ _).alloc (Nat.le_refl _) _).alloc (by simp) _⟩
  have := Blk.new (w.alloc (.cells d.cells 70)) (d.toRec id).cells 99
  simpa using this

theorem newDS_two (linger now fm : Int) (l : Lat) (w : World) :
    Calls Try.prog 36 #[.int .i64 linger, .int .i64 now, .int .i64 fm, .agg l.cells] w fun e w' => ∃ s x y, e = .returned (.pointer (some ⟨s, 0, none⟩)) ∧ w.heap.size ≤ s ∧ Blk w' s (newS linger now fm l x y).cells 96 ∧ Below w.heap.size w w' := by
  refine (newDS_any linger now fm l w).mono ?_
  rintro e w' ⟨rfl, rfl⟩
  refine ⟨_, w.heap.size + 1, w.heap.size + 2, rfl, by omega, ?_, ((((Below.refl _ _).alloc (Nat.le_refl _) _).alloc (by simp) _).alloc (by simp; omega) _).alloc (by simp; omega) _⟩
  have := Blk.new (((w.alloc (.cells l.cells 66)).alloc (.cells #[] 40)).alloc (.map #[] 0)) (newS linger now fm l (w.heap.size + 1) (w.heap.size + 2)).cells 96
  simpa using this

/-! ### The loop that makes the records -/
structure Mk (w2 wr : World) (k n : Nat) (a b : Nat → Nat) (D : Nat → DR) : Prop where
  pa : wr.rowIs w2.heap.size 40 n (fun i => if i < k then .pointer (some ⟨a i, 0, none⟩) else .pointer none)
  pb : wr.rowIs (w2.heap.size + 1) 40 n (fun i => if i < k then .pointer (some ⟨b i, 0, none⟩) else .pointer none)
  ra : ∀ i, i < k → Blk wr (a i) ((D i).toRec ByteArray.empty).cells 99
  rb : ∀ i, i < k → Blk wr (b i) ((D i).toRec ByteArray.empty).cells 99
  ga : ∀ i, i < k → w2.heap.size + 2 ≤ a i
  gb : ∀ i, i < k → w2.heap.size + 2 ≤ b i
  ne : ∀ i j, i < k → j < k → a i ≠ b j
  ia : ∀ i j, i < k → j < k → a i = a j → i = j
  ib : ∀ i j, i < k → j < k → b i = b j → i = j
  be : Below w2.heap.size w2 wr

def upd (a : Nat → Nat) (k g i : Nat) : Nat := if i = k then g else a i
theorem upd_same (a : Nat → Nat) (k g : Nat) : upd a k g k = g := by simp [upd]
theorem upd_lt (a : Nat → Nat) (k g i : Nat) (h : i < k) : upd a k g i = a i := by simp [upd, show ¬ i = k from by omega]

theorem mk_start (w2 : World) (n : Nat) (a b : Nat → Nat) (D : Nat → DR) :
    Mk w2 ((w2.alloc (.cells (madeCells #[.pointer none] n) 40)).alloc (.cells (madeCells #[.pointer none] n) 40)) 0 n a b D := by
  refine ⟨?_, ?_, fun i hi => by omega, fun i hi => by omega, fun i hi => by omega, fun i hi => by omega, fun i j hi => by omega, fun i j hi => by omega, fun i j hi => by omega, ((Below.refl _ _).alloc (Nat.le_refl _) _).alloc (by simp) _⟩
  · exact ((World.rowIs_made w2 (.pointer none) n 40).alloc _).congr (fun i _ => by simp)
  · have := World.rowIs_made (w2.alloc (.cells (madeCells #[.pointer none] n) 40)) (.pointer none) n 40
    simp only [World.size_alloc] at this
    exact this.congr (fun i _ => by simp)

theorem ptr_step {w : World} {P k n g : Nat} {a : Nat → Nat} (h : w.rowIs P 40 n (fun i => if i < k then .pointer (some ⟨a i, 0, none⟩) else .pointer none)) :
    (w.setCell ⟨P, k, none⟩ (.pointer (some ⟨g, 0, none⟩))).rowIs P 40 n (fun i => if i < k + 1 then .pointer (some ⟨upd a k g i, 0, none⟩) else .pointer none) := by
  refine (h.set k _).congr (fun i _ => ?_)
  show (if i = k then Value.pointer (some ⟨g, 0, none⟩) else if i < k then .pointer (some ⟨a i, 0, none⟩) else .pointer none) = _
  by_cases e : i = k
  · subst e; simp [upd]
  · by_cases l : i < k
    · rw [if_neg e, if_pos l, if_pos (by omega), upd_lt _ _ _ _ l]
    · rw [if_neg e, if_neg l, if_neg (by omega)]

theorem mk_step {w2 wr wa wb : World} {k n ga gb : Nat} {a b : Nat → Nat} {D : Nat → DR} (h : Mk w2 wr k n a b D) (_hk : k < n)
    (g1 : wr.heap.size ≤ ga) (r1 : Blk wa ga ((D k).toRec ByteArray.empty).cells 99) (b1 : Below wr.heap.size wr wa)
    (g2 : wa.heap.size ≤ gb) (r2 : Blk wb gb ((D k).toRec ByteArray.empty).cells 99) (b2 : Below wa.heap.size (wa.setCell ⟨w2.heap.size, k, none⟩ (.pointer (some ⟨ga, 0, none⟩))) wb) :
    Mk w2 (wb.setCell ⟨w2.heap.size + 1, k, none⟩ (.pointer (some ⟨gb, 0, none⟩))) (k + 1) n (upd a k ga) (upd b k gb) D := by
  have la := h.pa.lt
  have lb := h.pb.lt
  have z1 := b1.size
  have z2 := b2.size
  have z3 := r1.lt
  have z4 := r2.lt
  simp only [World.size_setCell] at z2
  have old : ∀ {g : Nat} {cs : Array Value} {t : TypeId}, g ≠ w2.heap.size → g ≠ w2.heap.size + 1 → Blk wa g cs t → Blk (wb.setCell ⟨w2.heap.size + 1, k, none⟩ (.pointer (some ⟨gb, 0, none⟩))) g cs t := by
    intro g cs t n1 n2 hg
    have h1 := hg.other (a := ⟨w2.heap.size, k, none⟩) n1 (.pointer (some ⟨ga, 0, none⟩))
    have h2 : Blk wb g cs t := by
      have hl := hg.lt
      unfold Blk at h1 ⊢
      rw [b2.block g hl]; exact h1
    exact h2.other (a := ⟨w2.heap.size + 1, k, none⟩) n2 _
  refine ⟨?_, ?_, ?_, ?_, ?_, ?_, ?_, ?_, ?_, ?_⟩
  · have h1 := h.pa.of_block (b1.block _ la)
    have h2 := (ptr_step (g := ga) h1).of_block (b2.block _ (by omega))
    exact h2.setOther (a := ⟨w2.heap.size + 1, k, none⟩) (by simp) _
  · have h1 := (h.pb.of_block (b1.block _ lb)).setOther (a := ⟨w2.heap.size, k, none⟩) (by simp) (.pointer (some ⟨ga, 0, none⟩))
    have h2 := h1.of_block (b2.block _ (by omega))
    exact ptr_step h2
  · intro i hi
    by_cases e : i = k
    · subst e; rw [upd_same]; exact old (by omega) (by omega) r1
    · have hik : i < k := by omega
      rw [upd_lt _ _ _ _ hik]
      have := h.ga i hik
      exact old (by omega) (by omega) ((h.ra i hik).below b1)
  · intro i hi
    by_cases e : i = k
    · subst e; rw [upd_same]; exact r2.other (a := ⟨w2.heap.size + 1, i, none⟩) (by simp; omega) _
    · have hik : i < k := by omega
      rw [upd_lt _ _ _ _ hik]
      have := h.gb i hik
      exact old (by omega) (by omega) ((h.rb i hik).below b1)
  · intro i hi
    by_cases e : i = k
    · subst e; rw [upd_same]; omega
    · rw [upd_lt _ _ _ _ (by omega)]; exact h.ga i (by omega)
  · intro i hi
    by_cases e : i = k
    · subst e; rw [upd_same]; omega
    · rw [upd_lt _ _ _ _ (by omega)]; exact h.gb i (by omega)
  · intro i j hi hj
    by_cases e : i = k
    · subst e
      rw [upd_same]
      by_cases e2 : j = i
      · subst e2; rw [upd_same]; omega
      · rw [upd_lt _ _ _ _ (by omega)]
        have := (h.rb j (by omega)).lt; omega
    · rw [upd_lt a _ _ _ (by omega)]
      by_cases e2 : j = k
      · subst e2; rw [upd_same]
        have := (h.ra i (by omega)).lt; omega
      · rw [upd_lt _ _ _ _ (by omega)]; exact h.ne i j (by omega) (by omega)
  · intro i j hi hj
    by_cases e : i = k
    · subst e
      rw [upd_same]
      by_cases e2 : j = i
      · intro _; exact e2.symm
      · rw [upd_lt _ _ _ _ (by omega)]
        have := (h.ra j (by omega)).lt; omega
    · rw [upd_lt a _ _ _ (by omega)]
      by_cases e2 : j = k
      · subst e2; rw [upd_same]
        have := (h.ra i (by omega)).lt; omega
      · rw [upd_lt _ _ _ _ (by omega)]; exact h.ia i j (by omega) (by omega)
  · intro i j hi hj
    by_cases e : i = k
    · subst e
      rw [upd_same]
      by_cases e2 : j = i
      · intro _; exact e2.symm
      · rw [upd_lt _ _ _ _ (by omega)]
        have := (h.rb j (by omega)).lt; omega
    · rw [upd_lt b _ _ _ (by omega)]
      by_cases e2 : j = k
      · subst e2; rw [upd_same]
        have := (h.rb i (by omega)).lt; omega
      · rw [upd_lt _ _ _ _ (by omega)]; exact h.ib i j (by omega) (by omega)
  · have hbe := h.be
    have q1 := hbe.trans (b1.mono hbe.size)
    have q2 := q1.setCell (p := ⟨w2.heap.size, k, none⟩) (Nat.le_refl _) (.pointer (some ⟨ga, 0, none⟩))
    have q3 := q2.trans (b2.mono q1.size)
    exact q3.setCell (p := ⟨w2.heap.size + 1, k, none⟩) (Nat.le_succ _) _

/-! ### The loop that decides -/
structure Lp (w3 wr : World) (s n j : Nat) (a : Nat → Nat) (S : Sum) (D : Nat → DR) (st : Nat → Nat × Int) (v : Value) : Prop where
  hs : Blk wr s (SJ S D st j v).cells 96
  hr : ∀ k, k < n → Blk wr (a k) (RJ D st j k).cells 99
  hx : Ex wr w3.heap.size v (EJ a D st j)
  fr : Fr (fun i => i = s ∨ (∃ k, k < n ∧ i = a k) ∨ w3.heap.size ≤ i) w3 wr

theorem lp_step {w3 wr wq w' : World} {s n j k : Nat} {t : Int} {a : Nat → Nat} {S : Sum} {D : Nat → DR} {st : Nat → Nat × Int} {v v' : Value} (h : Lp w3 wr s n j a S D st v)
    (hst : st j = (k, t)) (hk : k < n) (ia : ∀ i i', i < n → i' < n → a i = a i' → i = i') (hsa : ∀ i, i < n → s ≠ a i) (hlt : ∀ i, i < n → a i < w3.heap.size) (_hsl : s < w3.heap.size) (hq : Below wr.heap.size wr wq)
    (c1 : Blk w' s (Sum.cells (dS (SJ S D st j v) (RJ D st j k) v')) 96) (c2 : Blk w' (a k) (Rec.cells (dR (RJ D st j k) t)) 99) (c3 : Ex w' w3.heap.size v' (dE (EJ a D st j) (RJ D st j k) t (a k)))
    (c4 : Fr (fun i => i = s ∨ i = a k ∨ some i = v.ownBlock) wq w') : Lp w3 w' s n (j + 1) a S D st v' := by
  have hob : ∀ i, some i = v.ownBlock → w3.heap.size ≤ i := fun i hi => (h.hx.lt i hi.symm).1
  have e1 := SJ_step S D st j v v'
  have e2 := RJ_hit D st j
  have e3 := EJ_step a D st j
  rw [hst] at e1 e2 e3
  dsimp only at e1 e2 e3
  refine ⟨by rw [← e1]; exact c1, fun i hi => ?_, by rw [← e3]; exact c3, ?_⟩
  · by_cases e : i = k
    · subst e; rw [e2]; exact c2
    · rw [RJ_miss D st j i (by rw [hst]; exact e)]
      refine ((h.hr i hi).below hq).fr c4 ?_
      rintro (q | q | q)
      · exact hsa i hi q.symm
      · exact e (ia i k hi hk q)
      · have := hlt i hi; have := hob _ q; omega
  · refine (h.fr.trans (Fr.ofBelow (O := fun _ => False) hq) (fun _ _ q => q.elim)).trans c4 (fun i _ q => ?_)
    rcases q with q | q | q
    · exact .inl q
    · exact .inr (.inl ⟨k, hk, q⟩)
    · exact .inr (.inr (hob _ q))

end Go.Proofs.Qxb6619458a
