import Derived.Test.Qxb6619458aAPlace
import Derived.Test.Qxb6619458aAFits
import Derived.Test.Qxb6619458aMapOne
namespace Go.Proofs.Qxb6619458a
open Go.RowKit
attribute [local go_sem ↓] Go.wp_at_zero Go.wp_at_succ

theorem Fr.setCells {O : Nat → Prop} {a : World} {g : Nat} (hg : O g) : ∀ (vs : List Value) (o : Nat) {b : World}, Fr O a b → Fr O a (b.setCells g o vs)
  | [], _, _, h => h
  | v :: r, o, _, h => Fr.setCells hg r (o + 1) (h.setCell (p := ⟨g, o, none⟩) (.inl hg) v)

theorem PW.fr {F : Nat → Prop} {w w' : World} {s ob lb n G : Nat} {a : Nat → Nat} {S : Sum} {A : Nat → AR} {P : PS} (h : PW w s ob lb n G a S A P) (f : Fr F w w') (h1 : ¬ F s) (h2 : ¬ F ob) (h3 : ¬ F lb) (h4 : ∀ k, k < n → ¬ F (a k)) :
    PW w' s ob lb n G a S A P :=
  ⟨h.hs.fr f h1, h.ho.fr f h2, h.hl.of_block (f.block _ h.hl.lt h3), fun k hk => (h.hr k hk).fr f (h4 k hk), h.lt⟩

/-- The summary's own block turned. -/
theorem PW.sum {w w' : World} {s ob lb n G : Nat} {a : Nat → Nat} {S S' : Sum} {A : Nat → AR} {P : PS} (h : PW w s ob lb n G a S A P) (d : Apart s ob lb n a) (f : Fr (· = s) w w') (hs : Blk w' s S'.cells 96) :
    PW w' s ob lb n G a S' A P :=
  ⟨hs, h.ho.fr f (fun q => d.so q.symm), h.hl.of_block (f.block _ h.hl.lt (fun q => d.sl q.symm)), fun k hk => (h.hr k hk).fr f (fun q => d.sa k hk q.symm), h.lt⟩

/-- The first j fresh records, placed. -/
def endJ (A : Nat → AR) (T : Nat → Nat → Int) (fk : Nat → Nat) (P : PS) : Nat → PS
  | 0 => P
  | j + 1 => pstJ (fun l => (A l).ul) (fk j) (natT (T (fk j))) (endJ A T fk P j) (A (fk j)).tl

set_option maxRecDepth 100000 in
set_option maxHeartbeats 4000000 in
theorem end_some (s ob lb n G co gF cF nf : Nat) (cur : Array Value) (a fk : Nat → Nat) (S : Sum) (A : Nat → AR) (T : Nat → Nat → Int) (P : PS) (w wB : World) (hW : PW w s ob lb n G a S A P) (d : Apart s ob lb n a)
    (hS1 : 0 < G → S.opn = .slice (some ⟨ob, 0, none⟩) G co) (hS2 : S.last = .slice (some ⟨lb, 0, none⟩) G G) (hS3 : S.fresh = .slice (some ⟨gF, 0, none⟩) nf cF) (hf : Blk w gF cur 40) (hcur : ∀ i, i < nf → cur[i]? = some (.pointer (some ⟨a (fk i), 0, none⟩)))
    (hnf : 0 < nf) (hnf2 : nf ≤ 65536) (hfk : ∀ i, i < nf → fk i < n) (hT : IsT wB n A T) (hSm : Small A n) (hR : ∀ i, i < nf → InR (T (fk i)) 0 G (A (fk i)).tl)
    (hB : Below wB.heap.size wB w) (gO : wB.heap.size ≤ ob) (gL : wB.heap.size ≤ lb) (gA : ∀ l, l < n → wB.heap.size ≤ a l)
    (ds : gF ≠ s) (dO : gF ≠ ob) (dl : gF ≠ lb) (da : ∀ k, k < n → gF ≠ a k) :
    Calls Try.prog 63 #[.pointer (some ⟨s, 0, none⟩)] w fun e w' => e = .returned (.tuple #[]) ∧
      PW w' s ob lb n G a { S with fresh := .slice (some ⟨gF, 0, none⟩) 0 cF } A (endJ A T fk P nf) ∧ Fr (fun i => Wr G ob lb n a i ∨ i = s ∨ i = gF) w w' := by
  have c17 : w.cell? ⟨s, 17, none⟩ = some (.slice (some ⟨gF, 0, none⟩) nf cF) := by rw [← hS3]; exact hW.hs.cell rfl
  have HD : Hid (Apart s ob lb n a) := d
  have HR : Hid (∀ i, i < nf → InR (T (fk i)) 0 G (A (fk i)).tl) := hR
  have HU : Hid (Small A n) := hSm
  have HA : Hid (∀ l, l < n → wB.heap.size ≤ a l) := gA
  have H1 : Hid (0 < G → S.opn = .slice (some ⟨ob, 0, none⟩) G co) := hS1
  have H2 : Hid (S.last = .slice (some ⟨lb, 0, none⟩) G G) := hS2
  have H3 : Hid (S.fresh = .slice (some ⟨gF, 0, none⟩) nf cF) := hS3
  have HW : Hid (PW w s ob lb n G a S A P) := hW
  have HC : Hid (∀ i, i < nf → cur[i]? = some (.pointer (some ⟨a (fk i), 0, none⟩))) := hcur
  have HK : Hid (∀ i, i < nf → fk i < n) := hfk
  have HT : Hid (IsT wB n A T) := hT
  have HE : Hid (∀ k, k < n → gF ≠ a k) := da
  have HF : Hid (Blk w gF cur 40) := hf
  clear d hR hSm gA hS1 hS2 hS3 hW hcur hfk hT da hf
  have nW : Hid (¬ Wr G ob lb n a gF) := by
    rintro (q | q | ⟨k, hk, q⟩)
    · exact dO q.2
    · exact dl q
    · exact HE.out k hk q
  have nS : Hid (¬ Wr G ob lb n a s) := by
    rintro (q | q | ⟨k, hk, q⟩)
    · exact HD.out.so q.2
    · exact HD.out.sl q
    · exact HD.out.sa k hk q
  go_enter Try.func63, Try.ntmps63
  go_wp2
  go_loopg [3, 9] nf (fun g _ i wr => ∃ j : Nat, j ≤ nf ∧ g = nf - j ∧ i = .int .i64 j ∧ PW wr s ob lb n G a S A (endJ A T fk P j) ∧ Fr (Wr G ob lb n a) w wr)
  case atStart => exact ⟨0, Nat.zero_le _, rfl, rfl, HW.out, Fr.refl _ _⟩
  case round =>
    obtain ⟨j, hj, hg, rfl, hP, hF⟩ := hrel
    have hFB := HF.out.fr hF nW.out
    by_cases hlt : j < nf
    · have cj : wr.cell? ⟨gF, j, none⟩ = some (.pointer (some ⟨a (fk j), 0, none⟩)) := hFB.cell (HC.out j hlt)
      have hkn := HK.out j hlt
      have hBr : Below wB.heap.size wB wr := ⟨hF.os.trans hB.os, hF.tape.trans hB.tape, hF.output.trans hB.output, Nat.le_trans hB.size hF.size, fun i hi => (hF.block i (Nat.lt_of_lt_of_le hi hB.size) (by
        rintro (q | q | ⟨l, hl, q⟩)
        · omega
        · omega
        · have := HA.out l hl; omega)).trans (hB.block i hi)⟩
      go_wp2_with fail
      refine (place_some s ob lb n G co (fk j) a S A (T (fk j)) (endJ A T fk P j) wr wB hP HD.out H1.out H2.out hkn (HT.out _ hkn) (HU.out _ hkn).2.1 (HR.out j hlt) (fun l hl => (HU.out l hl).2.2) hBr gO gL HA.out).mono ?_
      rintro e w2 ⟨rfl, hP2, hF2⟩
      go_wp2
      go_roundg (nf - (j + 1))
      case measure => omega
      case rel => exact ⟨j + 1, by omega, rfl, by go_num, hP2, hF.trans hF2 (fun _ _ q => q)⟩
    · have e : nf = j := by omega
      subst e
      have d17 : wr.cell? ⟨s, 17, none⟩ = some (.slice (some ⟨gF, 0, none⟩) nf cF) := by rw [← H3.out]; exact hP.hs.cell rfl
      have hcl : ∀ ty, (Builtin.clear_ #[30] ty #[.slice (some ⟨gF, 0, none⟩) nf cF]).run Try.prog wr = .ok (.tuple #[]) (wr.setCells gF 0 (List.replicate nf (.pointer none))) :=
        fun ty => Lib.run_clear_slice wr 30 40 ty (.pointer none) Try.underlying30 (fun w => by kernel_rfl) rfl rfl gF 0 nf cF hnf (fun i hi => by rw [Nat.zero_add, hFB.cell (HC.out i hi)]; rfl) (fun i _ => hFB.frozen _)
      have F1 : Fr (· = gF) wr (wr.setCells gF 0 (List.replicate nf (.pointer none))) := Fr.setCells (O := (· = gF)) rfl _ _ (Fr.refl _ _)
      have hP1 : PW (wr.setCells gF 0 (List.replicate nf (.pointer none))) s ob lb n G a S A (endJ A T fk P nf) :=
        hP.fr F1 (fun q => ds q.symm) (fun q => dO q.symm) (fun q => dl q.symm) (fun k hk q => HE.out k hk q.symm)
      revert hcl F1 hP1
      generalize wr.setCells gF 0 (List.replicate nf (.pointer none)) = w3
      intro hcl F1 hP1
      have e17 : w3.cell? ⟨s, 17, none⟩ = some (.slice (some ⟨gF, 0, none⟩) nf cF) := by rw [← H3.out]; exact hP1.hs.cell rfl
      have e17f := hP1.hs.frozen 17
      have b4 : Blk (w3.setCell ⟨s, 17, none⟩ (.slice (some ⟨gF, 0, none⟩) 0 cF)) s (Sum.cells { S with fresh := .slice (some ⟨gF, 0, none⟩) 0 cF }) 96 := hP1.hs.set 17 _
      have F2 : Fr (· = s) w3 (w3.setCell ⟨s, 17, none⟩ (.slice (some ⟨gF, 0, none⟩) 0 cF)) := (Fr.refl _ _).setAt _ _
      have hP4 := hP1.sum HD.out F2 b4
      have HP4 : Hid (PW (w3.setCell ⟨s, 17, none⟩ (.slice (some ⟨gF, 0, none⟩) 0 cF)) s ob lb n G a { S with fresh := .slice (some ⟨gF, 0, none⟩) 0 cF } A (endJ A T fk P nf)) := hP4
      have HF4 : Hid (Fr (fun i => Wr G ob lb n a i ∨ i = s ∨ i = gF) w (w3.setCell ⟨s, 17, none⟩ (.slice (some ⟨gF, 0, none⟩) 0 cF))) :=
        ((hF.mono (fun _ _ q => .inl q)).trans F1 (fun _ _ q => .inr (.inr q))).trans F2 (fun _ _ q => .inr (.inl q))
      clear hP hF hFB hP1 F1 F2 b4 hP4 c17
      go_wp2_with (simp only [hcl])
      go_end0
      exact ⟨rfl, HP4.out, HF4.out⟩

end Go.Proofs.Qxb6619458a
