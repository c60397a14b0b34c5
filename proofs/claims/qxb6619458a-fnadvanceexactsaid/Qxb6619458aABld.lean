import Derived.Test.Qxb6619458aALeaf2
namespace Go.Proofs.Qxb6619458a
open Go.RowKit
attribute [local go_sem ↓] Go.wp_at_zero Go.wp_at_succ

theorem newRec_two (id : ByteArray) (tos un : Option Addr) (n1 c1 n2 c2 : Nat) (cl : Bool) (h : Int) (w : World) :
    Calls Try.prog 46 #[.string id, .slice tos n1 c1, .slice un n2 c2, .bool cl, .bool false, .bool false, .int .i64 0, .int .i64 0, .bool false, .int .i64 0, .int .i64 0, .bool false, .int .i64 h] w fun e w' =>
      ∃ g, e = .returned (.pointer (some ⟨g, 0, none⟩)) ∧ w.heap.size ≤ g ∧ Blk w' g (AR.mk0 ⟨id, tos, n1, c1, un, n2, c2, cl, h⟩ cl).cells 99 ∧ Below w.heap.size w w' := by
  refine (newRecord_any id tos un n1 c1 n2 c2 cl false false Lat.zero h w).mono ?_
  rintro e w' ⟨rfl, rfl⟩
  exact ⟨_, rfl, Nat.le_refl _, Blk.new _ _ _, (Below.refl _ _).alloc (Nat.le_refl _) _⟩

/-- The summary that ZZNewSummary lays. -/
def newG (linger now : Int) (ao : Option Addr) (G c lb m : Nat) : Sum :=
  ⟨linger, Lat.zero, 0, now, .slice none 0 0, .slice (some ⟨lb, 0, none⟩) G G, .slice ao G c, .map (some m), .slice none 0 0⟩

set_option maxRecDepth 100000 in
set_option maxHeartbeats 1000000 in
theorem newSumG_any (linger now : Int) (ao : Option Addr) (G c : Nat) (w : World) (hG : G ≤ 65536) :
    Calls Try.prog 47 #[.int .i64 linger, .int .i64 now, .int .i64 0, .int .i64 0, .int .i64 0, .bool false, .int .i64 0, .int .i64 0, .bool false, .slice ao G c] w fun e w' =>
      e = .returned (.pointer (some ⟨w.heap.size + 2, 0, none⟩)) ∧ w' = ((w.alloc (.cells (madeCells #[.pointer none] G) 40)).alloc (.map #[] 0)).alloc (.cells (newG linger now ao G c w.heap.size (w.heap.size + 1)).cells 96) := by
  have hmk := run_make_row' (P := Try.prog) 30 40 (.pointer none) 8 Try.underlying30 (by kernel_rfl) rfl .i64 .i64 G (by omega) (by omega)
  have hmm := @run_makeMap Try.prog
  go_enter Try.func47, Try.ntmps47
  go_wp2
  go_ret
  exact ⟨rfl, rfl⟩

/-- The loop that makes the records. -/
structure MkA (w2 wr : World) (P k n : Nat) (a : Nat → Nat) (A : Nat → AR) : Prop where
  pa : wr.rowIs P 40 n (fun i => if i < k then .pointer (some ⟨a i, 0, none⟩) else .pointer none)
  ra : ∀ i, i < k → Blk wr (a i) ((A i).mk0 (A i).cl).cells 99
  ga : ∀ i, i < k → P + 1 ≤ a i
  ia : ∀ i j, i < k → j < k → a i = a j → i = j
  be : Below P w2 wr

theorem MkA.start (w2 : World) (n : Nat) (a : Nat → Nat) (A : Nat → AR) :
    MkA w2 (w2.alloc (.cells (madeCells #[.pointer none] n) 40)) w2.heap.size 0 n a A := by
  refine ⟨?_, fun i hi => by omega, fun i hi => by omega, fun i j hi => by omega, (Below.refl _ _).alloc (Nat.le_refl _) _⟩
  exact (World.rowIs_made w2 (.pointer none) n 40).congr (fun i _ => by simp)

theorem MkA.step {w2 wr wa : World} {P k n g : Nat} {a : Nat → Nat} {A : Nat → AR} (h : MkA w2 wr P k n a A) 
    (g1 : wr.heap.size ≤ g) (r1 : Blk wa g ((A k).mk0 (A k).cl).cells 99) (b1 : Below wr.heap.size wr wa) :
    MkA w2 (wa.setCell ⟨P, k, none⟩ (.pointer (some ⟨g, 0, none⟩))) P (k + 1) n (upd a k g) A := by
  have la := h.pa.lt
  have z1 := b1.size
  refine ⟨?_, ?_, ?_, ?_, ?_⟩
  · exact ptr_step (h.pa.of_block (b1.block _ la))
  · intro i hi
    by_cases e : i = k
    · subst e; rw [upd_same]; exact r1.other (a := ⟨P, i, none⟩) (by show g ≠ P; omega) _
    · have hik : i < k := by omega
      rw [upd_lt _ _ _ _ hik]
      have := h.ga i hik
      exact ((h.ra i hik).below b1).other (a := ⟨P, k, none⟩) (by show a i ≠ P; omega) _
  · intro i hi
    by_cases e : i = k
    · subst e; rw [upd_same]; omega
    · rw [upd_lt _ _ _ _ (by omega)]; exact h.ga i (by omega)
  · intro i j hi hj
    by_cases e : i = k
    · subst e
      rw [upd_same]
      by_cases e2 : j = i
      · intro _; exact e2.symm
      · rw [upd_lt _ _ _ _ (by omega)]
        have := (h.ra j (by omega)).lt; omega
    · rw [upd_lt a _ _ _ (by omega)]
      by_cases e2 : j = k
      · subst e2; rw [upd_same]
        have := (h.ra i (by omega)).lt; omega
      · rw [upd_lt _ _ _ _ (by omega)]; exact h.ia i j (by omega) (by omega)
  · have hbe := h.be
    have q1 := hbe.trans (b1.mono (by omega))
    exact q1.setCell (p := ⟨P, k, none⟩) (Nat.le_refl _) _

/-- The last records, as far as they are laid. -/
def Lk (la : Nat → Int) (k g : Nat) : Option Nat := if g < k then dec (la g) else none
theorem Lk_zero (la : Nat → Int) (g : Nat) : Lk la 0 g = none := rfl
theorem Lk_some (la : Nat → Int) (k : Nat) (h : 0 ≤ la k) : up (Lk la k) k (some (la k).toNat) = Lk la (k + 1) := by
  funext g
  unfold up Lk
  by_cases e : g = k
  · subst e; rw [if_pos rfl, if_pos (by omega), dec, if_neg (by omega)]
  · rw [if_neg e]
    by_cases l : g < k
    · rw [if_pos l, if_pos (by omega)]
    · rw [if_neg l, if_neg (by omega)]
theorem Lk_none (la : Nat → Int) (k : Nat) (h : la k < 0) : Lk la k = Lk la (k + 1) := by
  funext g
  unfold Lk
  by_cases e : g = k
  · subst e; rw [if_neg (by omega), if_pos (by omega), dec_neg h]
  · by_cases l : g < k
    · rw [if_pos l, if_pos (by omega)]
    · rw [if_neg l, if_neg (by omega)]
theorem Lk_all (la : Nat → Int) (n g : Nat) (h : g < n) : Lk la n g = dec (la g) := if_pos h

/-- The map, as far as it is laid. -/
def mpk (ky : Nat → ByteArray) (va : Nat → Int) (a : Nat → Nat) : Nat → ByteArray → Option Value
  | 0 => fun _ => none
  | j + 1 => upM (mpk ky va a j) (ky j) (some (ptr a (dec (va j))))

theorem qu_succ (ex : Nat → Int × Int) (k : Nat) : qu ex (k + 1) = qu ex k ++ [((ex k).1, (ex k).2.toNat)] := by
  simp [qu, List.range_succ]

/-- Where the blocks lie. -/
structure Sta (h B rb s ob lb n m : Nat) (a : Nat → Nat) : Prop where
  ap : Apart s ob lb n a
  lo : Low s ob lb n m B a
  gL : h ≤ lb
  gS : h ≤ s
  gM : h ≤ m
  gA : ∀ k, k < n → h ≤ a k
  gR : h ≤ rb
  rB : rb < B
  rs : rb ≠ s
  rl : rb ≠ lb
  rm : rb ≠ m
  ra : ∀ k, k < n → rb ≠ a k

theorem Low.mono {s ob lb n m B B' : Nat} {a : Nat → Nat} (h : Low s ob lb n m B a) (hB : B ≤ B') : Low s ob lb n m B' a :=
  ⟨Nat.lt_of_lt_of_le h.bs hB, Nat.lt_of_lt_of_le h.bo hB, Nat.lt_of_lt_of_le h.bl hB, Nat.lt_of_lt_of_le h.bm hB, fun k hk => Nat.lt_of_lt_of_le (h.ba k hk) hB, h.ms, h.mo, h.ml, h.ma⟩
theorem Sta.mono {h B B' rb s ob lb n m : Nat} {a : Nat → Nat} (q : Sta h B rb s ob lb n m a) (hB : B ≤ B') : Sta h B' rb s ob lb n m a :=
  ⟨q.ap, q.lo.mono hB, q.gL, q.gS, q.gM, q.gA, q.gR, Nat.lt_of_lt_of_le q.rB hB, q.rs, q.rl, q.rm, q.ra⟩

/-- What advanceBuild has laid. -/
structure Bd (w wr : World) (rb s ob lb n G m : Nat) (a : Nat → Nat) (S : Sum) (A : Nat → AR) (P : PS) (M : ByteArray → Option Value) : Prop where
  pw : PW wr s ob lb n G a S A P
  mp : MapS wr m M
  rs : wr.rowIs rb 40 n (fun i => .pointer (some ⟨a i, 0, none⟩))
  be : Below w.heap.size w wr

/-- The summary is laid. -/
theorem Bd.start {w w3 : World} {n G c ob : Nat} {a : Nat → Nat} {A : Nat → AR} {O : Nat → Int} {la : Nat → Int} (linger now : Int) (ao : Option Addr) (h : MkA w w3 w.heap.size n n a A) (hO : OW w ob G O) (hob2 : 0 < G → ob < w.heap.size)
    {w4 : World} (h4 : w4 = ((w3.alloc (.cells (madeCells #[.pointer none] G) 40)).alloc (.map #[] 0)).alloc (.cells (newG linger now ao G c w3.heap.size (w3.heap.size + 1)).cells 96)) :
    Bd w w4 w.heap.size (w3.heap.size + 2) ob w3.heap.size n G (w3.heap.size + 1) a (newG linger now ao G c w3.heap.size (w3.heap.size + 1)) A ⟨O, Lk la 0, fun k => (A k).cl⟩ (fun _ => none) := by
  have lP := h.pa.lt
  have b4 : Below w3.heap.size w3 w4 := by rw [h4]; exact (((Below.refl _ _).alloc (Nat.le_refl _) _).alloc (by simp) _).alloc (by simp; omega) _
  have b := h.be.trans (b4.mono (Nat.le_of_lt lP))
  refine ⟨⟨?_, ?_, ?_, fun k hk => (h.ra k hk).below b4, fun g l _ hl => by cases hl⟩, ?_, ?_, b⟩
  · have := Blk.new ((w3.alloc (.cells (madeCells #[.pointer none] G) 40)).alloc (.map #[] 0)) (newG linger now ao G c w3.heap.size (w3.heap.size + 1)).cells 96
    rw [h4]; simpa using this
  · rcases hO with hO | hO
    · exact .inl hO
    · by_cases g0 : 0 < G
      · exact .inr (hO.of_block (b.block _ (hob2 g0)))
      · exact .inl (by omega)
  · rw [h4]
    exact ((World.rowIs_made w3 (.pointer none) G 40).alloc _).alloc _
  · have hm : Nil ((w3.alloc (.cells (madeCells #[.pointer none] G) 40)).alloc (.map #[] 0)) (w3.heap.size + 1) := by
      have := heap_alloc_new (w3.alloc (.cells (madeCells #[.pointer none] G) 40)) (.map #[] 0)
      simpa [Nil] using this
    rw [h4]
    exact (MapS.ofNil hm).below ((Below.refl _ _).alloc (Nat.le_refl _) _)
  · exact (h.pa.of_block (b4.block _ lP)).congr (fun i hi => if_pos hi)

theorem Sta.start {w w3 : World} {n ob : Nat} {a : Nat → Nat} {A : Nat → AR} (h : MkA w w3 w.heap.size n n a A) (hob : ob ≤ w.heap.size) :
    Sta w.heap.size (w3.heap.size + 3) w.heap.size (w3.heap.size + 2) ob w3.heap.size n (w3.heap.size + 1) a := by
  have lP := h.pa.lt
  refine ⟨⟨by omega, by omega, by omega, fun k hk => ?_, fun k hk => ?_, fun k hk => ?_, h.ia⟩, ⟨by omega, by omega, by omega, by omega, fun k hk => ?_, by omega, by omega, by omega, fun k hk => ?_⟩, by omega, by omega, by omega, fun k hk => ?_, by omega, by omega, by omega, by omega, by omega, fun k hk => ?_⟩
  all_goals (have h1 := (h.ra k hk).lt; have h2 := h.ga k hk; omega)

theorem Bd.setL {w wr : World} {rb s ob lb n G m B : Nat} {a : Nat → Nat} {S : Sum} {A : Nat → AR} {P : PS} {M : ByteArray → Option Value} (h : Bd w wr rb s ob lb n G m a S A P M) (st : Sta w.heap.size B rb s ob lb n m a) {k g : Nat} (hk : k < n) :
    Bd w (wr.setCell ⟨lb, g, none⟩ (.pointer (some ⟨a k, 0, none⟩))) rb s ob lb n G m a S A { P with L := up P.L g (some k) } M := by
  have F : Fr (· = lb) wr (wr.setCell ⟨lb, g, none⟩ (.pointer (some ⟨a k, 0, none⟩))) := (Fr.refl _ _).setAt _ _
  exact ⟨h.pw.setL st.ap hk, h.mp.fr F st.lo.ml, h.rs.of_block (F.block _ h.rs.lt st.rl), h.be.setCell (p := ⟨lb, g, none⟩) st.gL _⟩

theorem Bd.turn {w wr w' : World} {rb s ob lb n G m B : Nat} {a : Nat → Nat} {S S' : Sum} {A : Nat → AR} {P : PS} {M : ByteArray → Option Value} (h : Bd w wr rb s ob lb n G m a S A P M) (st : Sta w.heap.size B rb s ob lb n m a)
    (f : Fr (fun i => i = s ∨ B ≤ i) wr w') (hs : Blk w' s S'.cells 96) : Bd w w' rb s ob lb n G m a S' A P M := by
  have := st.lo.bo
  have := st.lo.bl
  have := st.lo.bm
  have := st.rB
  have hso := st.ap.so
  have hsl := st.ap.sl
  refine ⟨⟨hs, h.pw.ho.fr f (by omega), h.pw.hl.of_block (f.block _ h.pw.hl.lt (by omega)), fun k hk => (h.pw.hr k hk).fr f ?_, h.pw.lt⟩, h.mp.fr f ?_, h.rs.of_block (f.block _ h.rs.lt ?_), f.toBelow h.be (fun i hi => ?_)⟩
  · have h1 := st.ap.sa k hk
    have h2 := st.lo.ba k hk
    omega
  · have := st.lo.ms
    omega
  · have := st.rs
    omega
  · have := st.gS
    have := st.gR
    omega

theorem Bd.turnM {w wr w' : World} {rb s ob lb n G m B : Nat} {a : Nat → Nat} {S : Sum} {A : Nat → AR} {P : PS} {M M' : ByteArray → Option Value} (h : Bd w wr rb s ob lb n G m a S A P M) (st : Sta w.heap.size B rb s ob lb n m a)
    (f : Fr (· = m) wr w') (hm : MapS w' m M') : Bd w w' rb s ob lb n G m a S A P M' :=
  ⟨h.pw.fr f (fun q => st.lo.ms q.symm) (fun q => st.lo.mo q.symm) (fun q => st.lo.ml q.symm) (fun k hk q => st.lo.ma k hk q.symm), hm, h.rs.of_block (f.block _ h.rs.lt st.rm), f.toBelow h.be (fun i hi q => by have := st.gM; omega)⟩

/-- The fresh records, as a list. -/
def frs (a : Nat → Nat) (fr : Nat → Int) (k : Nat) : List Value := (List.range k).map (fun i => .pointer (some ⟨a (natT fr i), 0, none⟩))
theorem frs_succ (a : Nat → Nat) (fr : Nat → Int) (k : Nat) : frs a fr (k + 1) = frs a fr k ++ [.pointer (some ⟨a (natT fr k), 0, none⟩)] := by simp [frs, List.range_succ]

/-- What advanceBuild leaves. -/
structure Built (w w' : World) (rb s ob lb n G m gF B nf : Nat) (a fk : Nat → Nat) (S : Sum) (A : Nat → AR) (P : PS) (E : List (Int × Nat)) (M : ByteArray → Option Value) : Prop where
  aw : AW w' s ob lb n G m B a S A P E M
  st : Sta w.heap.size B rb s ob lb n m a
  fr : FreshIs w' s ob lb n a fk S.fresh nf gF
  la : S.last = .slice (some ⟨lb, 0, none⟩) G G
  mp : S.mp = .map (some m)
  rs : w'.rowIs rb 40 n (fun i => .pointer (some ⟨a i, 0, none⟩))
  be : Below w.heap.size w w'
  gFh : w.heap.size ≤ gF
  fB : gF < B
  fm : gF ≠ m
  frb : gF ≠ rb
  Bw : B ≤ w'.heap.size

end Go.Proofs.Qxb6619458a
