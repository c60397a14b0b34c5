import Derived.Test.Qxb6619458aAMem
import Derived.Deep.LoopGhost
import Derived.Deep.Cut
import Derived.Deep.CutRange
namespace Go.Proofs.Qxb6619458a
open Go.RowKit
attribute [local go_sem ↓] Go.wp_at_zero Go.wp_at_succ

/-- f, with v at k. -/
def up {α : Type} (f : Nat → α) (k : Nat) (v : α) (i : Nat) : α := if i = k then v else f i
theorem up_same {α : Type} (f : Nat → α) (k : Nat) (v : α) : up f k v k = v := by simp [up]
theorem up_ne {α : Type} (f : Nat → α) (k : Nat) (v : α) {i : Nat} (h : i ≠ k) : up f k v i = f i := by simp [up, h]

/-- What place turns: the open counts, the last record of each group, the clashes. -/
structure PS where
  O : Nat → Int
  L : Nat → Option Nat
  C : Nat → Bool

/-- .. the first 'if'. -/
def p1 (k g : Nat) (P : PS) : PS := { P with C := if 0 < P.O g then up P.C k true else P.C }
/-- .. the second. -/
def p2 (ul : Nat → Nat) (g : Nat) (P : PS) : PS := { P with C := match P.L g with | some l => if 0 < ul l then up P.C l true else P.C | none => P.C }
/-- .. and the rest. -/
def p3 (k g : Nat) (P : PS) : PS := { P with L := up P.L g (some k), O := up P.O g (wrap64 (P.O g + 1)) }
def pst (ul : Nat → Nat) (k g : Nat) (P : PS) : PS := p3 k g (p2 ul g (p1 k g P))
/-- The first j groups of a list. -/
def pstJ (ul : Nat → Nat) (k : Nat) (t : Nat → Nat) (P : PS) : Nat → PS
  | 0 => P
  | j + 1 => pst ul k (t j) (pstJ ul k t P j)

def ptr (a : Nat → Nat) : Option Nat → Value
  | none => .pointer none
  | some l => .pointer (some ⟨a l, 0, none⟩)

/-- The record that advanceBuild lays. -/
def AR.mk0 (A : AR) (cl : Bool) : Rec := ⟨A.id, .slice A.ta A.tl A.tc, .slice A.ua A.ul A.uc, cl, false, false, Lat.zero, A.h⟩

/-- The open counts: nothing is known of the block where there is no group. -/
def OW (w : World) (ob G : Nat) (O : Nat → Int) : Prop := G ≤ 0 ∨ w.rowIs ob 3 G (fun g => .int .i64 (O g))
theorem OW.row {w : World} {ob G m : Nat} {O : Nat → Int} (h : OW w ob G O) (hm : m < G) : w.rowIs ob 3 G (fun g => .int .i64 (O g)) := by
  rcases h with h | h
  · omega
  · exact h
theorem OW.cell {w : World} {ob G m : Nat} {O : Nat → Int} (h : OW w ob G O) (hm : m < G) : w.cell? ⟨ob, m, none⟩ = some (.int .i64 (O m)) := (h.row hm).cell hm
theorem OW.setOther {w : World} {ob G : Nat} {O : Nat → Int} (h : OW w ob G O) {a : Addr} (ha : ob ≠ a.block) (v : Value) : OW (w.setCell a v) ob G O := h.imp id (fun q => q.setOther ha v)
theorem OW.set {w : World} {ob G : Nat} {O : Nat → Int} (h : OW w ob G O) (g : Nat) (v : Int) : OW (w.setCell ⟨ob, g, none⟩ (.int .i64 v)) ob G (up O g v) := by
  refine h.imp id (fun q => (q.set g (.int .i64 v)).congr (fun i _ => ?_))
  show (if i = g then Value.int .i64 v else .int .i64 (O i)) = .int .i64 (up O g v i)
  unfold up
  split <;> rfl
theorem OW.below {w w' : World} {ob G : Nat} {O : Nat → Int} (h : OW w ob G O) (hb : Below w.heap.size w w') : OW w' ob G O := h.imp id (fun q => q.of_block (hb.block _ q.lt))
theorem OW.fr {F : Nat → Prop} {w w' : World} {ob G : Nat} {O : Nat → Int} (h : OW w ob G O) (f : Fr F w w') (hn : ¬ F ob) : OW w' ob G O := h.imp id (fun q => q.of_block (f.block _ q.lt hn))

/-- What place sees of the memory. -/
structure PW (w : World) (s ob lb n G : Nat) (a : Nat → Nat) (S : Sum) (A : Nat → AR) (P : PS) : Prop where
  hs : Blk w s S.cells 96
  ho : OW w ob G P.O
  hl : w.rowIs lb 40 G (fun g => ptr a (P.L g))
  hr : ∀ k, k < n → Blk w (a k) ((A k).mk0 (P.C k)).cells 99
  lt : ∀ g l, g < G → P.L g = some l → l < n

/-- The blocks are apart. -/
structure Apart (s ob lb n : Nat) (a : Nat → Nat) : Prop where
  so : s ≠ ob
  sl : s ≠ lb
  ol : ob ≠ lb
  sa : ∀ k, k < n → s ≠ a k
  oa : ∀ k, k < n → ob ≠ a k
  la : ∀ k, k < n → lb ≠ a k
  ia : ∀ k l, k < n → l < n → a k = a l → k = l

/-- The blocks that place writes. -/
def Wr (G ob lb n : Nat) (a : Nat → Nat) (i : Nat) : Prop := (0 < G ∧ i = ob) ∨ i = lb ∨ ∃ k, k < n ∧ i = a k

theorem PW.setC {w : World} {s ob lb n G : Nat} {a : Nat → Nat} {S : Sum} {A : Nat → AR} {P : PS} (h : PW w s ob lb n G a S A P) (d : Apart s ob lb n a) {k : Nat} (hk : k < n) :
    PW (w.setCell ⟨a k, 5, none⟩ (.bool true)) s ob lb n G a S A { P with C := up P.C k true } := by
  refine ⟨h.hs.other (a := ⟨a k, 5, none⟩) (d.sa k hk) _, h.ho.setOther (a := ⟨a k, 5, none⟩) (d.oa k hk) _, h.hl.setOther (a := ⟨a k, 5, none⟩) (d.la k hk) _, fun l hl => ?_, h.lt⟩
  by_cases e : l = k
  · subst e
    have := (h.hr l hl).set 5 (.bool true)
    rw [show ((A l).mk0 (P.C l)).cells.setIfInBounds 5 (.bool true) = ((A l).mk0 (up P.C l true l)).cells from by rw [up_same]; rfl] at this
    exact this
  · show Blk _ (a l) ((A l).mk0 (up P.C k true l)).cells 99
    rw [up_ne _ _ _ e]
    exact (h.hr l hl).other (a := ⟨a k, 5, none⟩) (fun q => e (d.ia l k hl hk q)) _

theorem PW.setL {w : World} {s ob lb n G : Nat} {a : Nat → Nat} {S : Sum} {A : Nat → AR} {P : PS} (h : PW w s ob lb n G a S A P) (d : Apart s ob lb n a) {k g : Nat} (hk : k < n) :
    PW (w.setCell ⟨lb, g, none⟩ (.pointer (some ⟨a k, 0, none⟩))) s ob lb n G a S A { P with L := up P.L g (some k) } := by
  refine ⟨h.hs.other (a := ⟨lb, g, none⟩) d.sl _, h.ho.setOther (a := ⟨lb, g, none⟩) d.ol _, ?_, fun l hl => (h.hr l hl).other (a := ⟨lb, g, none⟩) (fun q => d.la l hl q.symm) _, fun g' l hg hl => ?_⟩
  · refine (h.hl.set g (.pointer (some ⟨a k, 0, none⟩))).congr (fun i _ => ?_)
    show (if i = g then Value.pointer (some ⟨a k, 0, none⟩) else ptr a (P.L i)) = ptr a (up P.L g (some k) i)
    unfold up
    split <;> rfl
  · by_cases e : g' = g
    · subst e
      have hl : up P.L g' (some k) g' = some l := hl
      rw [up_same] at hl
      cases hl
      exact hk
    · have hl : up P.L g (some k) g' = some l := hl
      rw [up_ne _ _ _ e] at hl
      exact h.lt g' l hg hl

theorem PW.setO {w : World} {s ob lb n G : Nat} {a : Nat → Nat} {S : Sum} {A : Nat → AR} {P : PS} (h : PW w s ob lb n G a S A P) (d : Apart s ob lb n a) {g : Nat} (v : Int) :
    PW (w.setCell ⟨ob, g, none⟩ (.int .i64 v)) s ob lb n G a S A { P with O := up P.O g v } := by
  exact ⟨h.hs.other (a := ⟨ob, g, none⟩) d.so _, h.ho.set g v, h.hl.setOther (a := ⟨ob, g, none⟩) (fun q => d.ol q.symm) _, fun l hl => (h.hr l hl).other (a := ⟨ob, g, none⟩) (fun q => d.oa l hl q.symm) _, h.lt⟩

theorem PW.below {w : World} {s ob lb n G : Nat} {a : Nat → Nat} {S : Sum} {A : Nat → AR} {P : PS} (h : PW w s ob lb n G a S A P) {w' : World} (hb : Below w.heap.size w w') : PW w' s ob lb n G a S A P :=
  ⟨h.hs.below hb, h.ho.below hb, h.hl.of_block (hb.block _ h.hl.lt), fun k hk => (h.hr k hk).below hb, h.lt⟩

/-- The groups of the first tl. -/
def natT (f : Nat → Int) (j : Nat) : Nat := (f j).toNat

set_option maxRecDepth 100000 in
set_option maxHeartbeats 4000000 in
theorem place_some (s ob lb n G co k : Nat) (a : Nat → Nat) (S : Sum) (A : Nat → AR) (t : Nat → Int) (P : PS) (w wB : World) (hW : PW w s ob lb n G a S A P) (d : Apart s ob lb n a)
    (hS1 : 0 < G → S.opn = .slice (some ⟨ob, 0, none⟩) G co) (hS2 : S.last = .slice (some ⟨lb, 0, none⟩) G G) (hk : k < n) (hT : IsI wB (A k).ta (A k).tl t) (htl : (A k).tl ≤ 1048576) (hR : ∀ j, j < (A k).tl → 0 ≤ t j ∧ t j < G)
    (hul : ∀ l, l < n → (A l).ul ≤ 1048576) (hB : Below wB.heap.size wB w) (gO : wB.heap.size ≤ ob) (gL : wB.heap.size ≤ lb) (gA : ∀ l, l < n → wB.heap.size ≤ a l) :
    Calls Try.prog 53 #[.pointer (some ⟨s, 0, none⟩), .pointer (some ⟨a k, 0, none⟩)] w fun e w' => e = .returned (.tuple #[]) ∧
      PW w' s ob lb n G a S A (pstJ (fun l => (A l).ul) k (natT t) P (A k).tl) ∧ Fr (Wr G ob lb n a) w w' := by
  have c3 : w.cell? ⟨a k, 3, none⟩ = some (.slice (A k).ta (A k).tl (A k).tc) := (hW.hr k hk).cell rfl
  have HD : Hid (Apart s ob lb n a) := d
  have HR : Hid (∀ j, j < (A k).tl → 0 ≤ t j ∧ t j < G) := hR
  have HU : Hid (∀ l, l < n → (A l).ul ≤ 1048576) := hul
  have HA : Hid (∀ l, l < n → wB.heap.size ≤ a l) := gA
  have H1 : Hid (0 < G → S.opn = .slice (some ⟨ob, 0, none⟩) G co) := hS1
  have H2 : Hid (S.last = .slice (some ⟨lb, 0, none⟩) G G) := hS2
  have HW : Hid (PW w s ob lb n G a S A P) := hW
  obtain ⟨ta, hta⟩ : ∃ ta, (A k).ta = ta := ⟨_, rfl⟩
  rw [hta] at c3 hT
  clear d hR hul gA hS1 hS2 hW hta
  go_enter Try.func53, Try.ntmps53
  go_wp2
  go_loopg [5, 6, 12] (A k).tl (fun g _ _ i wr => ∃ j : Nat, j ≤ (A k).tl ∧ g = (A k).tl - j ∧ i = .int .i64 j ∧ PW wr s ob lb n G a S A (pstJ (fun l => (A l).ul) k (natT t) P j) ∧ Fr (Wr G ob lb n a) w wr)
  case atStart => exact ⟨0, Nat.zero_le _, rfl, rfl, HW.out, Fr.refl _ _⟩
  case round =>
    obtain ⟨j, hj, hg, rfl, hP, hF⟩ := hrel
    by_cases hlt : j < (A k).tl
    · obtain ⟨t1, t2⟩ := HR.out j hlt
      obtain ⟨m, hm⟩ : ∃ m : Nat, t j = m := ⟨(t j).toNat, by omega⟩
      rw [hm] at t1 t2
      have hmG : m < G := by omega
      have HM : Hid (natT t j = m) := by show (t j).toNat = m; omega
      have hBr : Below wB.heap.size wB wr := ⟨hF.os.trans hB.os, hF.tape.trans hB.tape, hF.output.trans hB.output, Nat.le_trans hB.size hF.size, fun i hi => (hF.block i (Nat.lt_of_lt_of_le hi hB.size) (by
        rintro (q | q | ⟨l, hl, q⟩)
        · omega
        · omega
        · have := HA.out l hl; omega)).trans (hB.block i hi)⟩
      obtain ⟨b, off, hx, hl, c0⟩ := (hT.below hBr).le hlt
      rw [hm] at c0
      subst hx
      clear hm
      have hd := HD.out
      have dsk := hd.sa k hk
      have dok := hd.oa k hk
      have dlk := hd.la k hk
      have dsl := hd.sl
      have dso := hd.so
      have dol := hd.ol
      clear hd
      obtain ⟨Q, HQ⟩ : ∃ Q, Hid (pstJ (fun l => (A l).ul) k (natT t) P j = Q) := ⟨_, rfl⟩
      rw [HQ.out] at hP
      have c19 : wr.cell? ⟨s, 19, none⟩ = some (.slice (some ⟨ob, 0, none⟩) G co) := by rw [← H1.out (by omega)]; exact hP.hs.cell rfl
      have cO : wr.cell? ⟨ob, m, none⟩ = some (.int .i64 (Q.O m)) := hP.ho.cell hmG
      have c5 : wr.cell? ⟨a k, 5, none⟩ = some (.bool (Q.C k)) := (hP.hr k hk).cell rfl
      have f5 := (hP.hr k hk).frozen 5
      have HP : Hid (PW wr s ob lb n G a S A Q) := hP
      clear hP hT
      go_upto_if 23 with fail
      go_cut [12] from 12 to 63 (fun i wx => i = .int .i64 j ∧ PW wx s ob lb n G a S A (p1 k m Q) ∧ Fr (Wr G ob lb n a) w wx)
      case first =>
        by_cases h0 : 0 < Q.O m
        · go_wp2_with fail
          go_meet
          refine ⟨rfl, ?_, hF.setCell (p := ⟨a k, 5, none⟩) (.inl (.inr (.inr ⟨k, hk, rfl⟩))) _⟩
          rw [show p1 k m Q = { Q with C := up Q.C k true } from by simp [p1, h0]]
          exact HP.out.setC HD.out hk
        · go_wp2_with fail
          go_meet
          refine ⟨rfl, ?_, hF⟩
          rw [show p1 k m Q = Q from by unfold p1; rw [if_neg (by omega)]]
          exact HP.out
      case rest =>
        obtain ⟨rfl, hP1, hF1⟩ := hcut
        clear c0 c3 c19 cO c5 f5 hF HP
        have c18 : wc.cell? ⟨s, 18, none⟩ = some (.slice (some ⟨lb, 0, none⟩) G G) := by rw [← H2.out]; exact hP1.hs.cell rfl
        have c19 : wc.cell? ⟨s, 19, none⟩ = some (.slice (some ⟨ob, 0, none⟩) G co) := by rw [← H1.out (by omega)]; exact hP1.hs.cell rfl
        have cO : wc.cell? ⟨ob, m, none⟩ = some (.int .i64 (Q.O m)) := hP1.ho.cell hmG
        have fO := (hP1.ho.row hmG).frozen m
        have cL : wc.cell? ⟨lb, m, none⟩ = some (ptr a (Q.L m)) := hP1.hl.cell hmG
        have fL := hP1.hl.frozen m
        cases hLm : Q.L m with
        | none =>
          rw [hLm] at cL
          simp only [ptr] at cL
          have HP2 : Hid (PW wc s ob lb n G a S A (p2 (fun l => (A l).ul) m (p1 k m Q))) := by
            show PW wc s ob lb n G a S A (p2 (fun l => (A l).ul) m (p1 k m Q))
            rw [show p2 (fun l => (A l).ul) m (p1 k m Q) = p1 k m Q from by simp [p2, p1, hLm]]
            exact hP1
          clear hP1 hLm
          go_wp2
          go_roundg ((A k).tl - (j + 1))
          case measure => omega
          case rel =>
            refine ⟨j + 1, by omega, rfl, by go_num, ?_, (hF1.setCell (p := ⟨lb, m, none⟩) (.inl (.inr (.inl rfl))) _).setCell (p := ⟨ob, m, none⟩) (.inl (.inl ⟨by omega, rfl⟩)) _⟩
            rw [show pstJ (fun l => (A l).ul) k (natT t) P (j + 1) = p3 k m (p2 (fun l => (A l).ul) m (p1 k m Q)) from by rw [pstJ, HM.out, HQ.out]; rfl]
            exact (HP2.out.setL HD.out hk).setO HD.out _
        | some l =>
          rw [hLm] at cL
          simp only [ptr] at cL
          have hln : l < n := hP1.lt m l hmG hLm
          have c4 : wc.cell? ⟨a l, 4, none⟩ = some (.slice (A l).ua (A l).ul (A l).uc) := (hP1.hr l hln).cell rfl
          have c5 : wc.cell? ⟨a l, 5, none⟩ = some (.bool ((p1 k m Q).C l)) := (hP1.hr l hln).cell rfl
          have f5 := (hP1.hr l hln).frozen 5
          have ull := HU.out l hln
          have hd := HD.out
          have dsl' := hd.sa l hln
          have dol' := hd.oa l hln
          have dll' := hd.la l hln
          clear hd
          by_cases hu : 0 < (A l).ul
          · have HP2 : Hid (PW (wc.setCell ⟨a l, 5, none⟩ (.bool true)) s ob lb n G a S A (p2 (fun l => (A l).ul) m (p1 k m Q))) := by
              show PW _ s ob lb n G a S A (p2 (fun l => (A l).ul) m (p1 k m Q))
              rw [show p2 (fun l => (A l).ul) m (p1 k m Q) = { p1 k m Q with C := up (p1 k m Q).C l true } from by simp [p2, p1, hLm, hu]]
              exact hP1.setC HD.out hln
            clear hP1 hLm
            go_wp2
            go_roundg ((A k).tl - (j + 1))
            case measure => omega
            case rel =>
              refine ⟨j + 1, by omega, rfl, by go_num, ?_, ((hF1.setCell (p := ⟨a l, 5, none⟩) (.inl (.inr (.inr ⟨l, hln, rfl⟩))) _).setCell (p := ⟨lb, m, none⟩) (.inl (.inr (.inl rfl))) _).setCell (p := ⟨ob, m, none⟩) (.inl (.inl ⟨by omega, rfl⟩)) _⟩
              rw [show pstJ (fun l => (A l).ul) k (natT t) P (j + 1) = p3 k m (p2 (fun l => (A l).ul) m (p1 k m Q)) from by rw [pstJ, HM.out, HQ.out]; rfl]
              exact (HP2.out.setL HD.out hk).setO HD.out _
          · have HP2 : Hid (PW wc s ob lb n G a S A (p2 (fun l => (A l).ul) m (p1 k m Q))) := by
              show PW wc s ob lb n G a S A (p2 (fun l => (A l).ul) m (p1 k m Q))
              rw [show p2 (fun l => (A l).ul) m (p1 k m Q) = p1 k m Q from by simp [p2, p1, hLm, hu]]
              exact hP1
            clear hP1 hLm
            go_wp2
            go_roundg ((A k).tl - (j + 1))
            case measure => omega
            case rel =>
              refine ⟨j + 1, by omega, rfl, by go_num, ?_, (hF1.setCell (p := ⟨lb, m, none⟩) (.inl (.inr (.inl rfl))) _).setCell (p := ⟨ob, m, none⟩) (.inl (.inl ⟨by omega, rfl⟩)) _⟩
              rw [show pstJ (fun l => (A l).ul) k (natT t) P (j + 1) = p3 k m (p2 (fun l => (A l).ul) m (p1 k m Q)) from by rw [pstJ, HM.out, HQ.out]; rfl]
              exact (HP2.out.setL HD.out hk).setO HD.out _
    · have e : (A k).tl = j := by omega
      subst e
      clear hT
      go_wp2
      go_end0
      exact ⟨rfl, hP, hF⟩

end Go.Proofs.Qxb6619458a
