import Derived.Test.Qxb6619458aAAdv
namespace Go.Proofs.Qxb6619458a
open Go.RowKit
attribute [local go_sem ↓] Go.wp_at_zero Go.wp_at_succ

/-- The fresh records: none, or a block of their own. -/
def FreshIs (w : World) (s ob lb n : Nat) (a fk : Nat → Nat) (v : Value) (nf gF : Nat) : Prop :=
  (nf = 0 ∧ v = .slice none 0 0) ∨ ∃ cF cur, v = .slice (some ⟨gF, 0, none⟩) nf cF ∧ 0 < nf ∧ Blk w gF cur 40 ∧ (∀ i, i < nf → cur[i]? = some (.pointer (some ⟨a (fk i), 0, none⟩))) ∧ gF ≠ s ∧ gF ≠ ob ∧ gF ≠ lb ∧ ∀ k, k < n → gF ≠ a k

theorem end_any (s ob lb n G co gF nf : Nat) (a fk : Nat → Nat) (S : Sum) (A : Nat → AR) (T : Nat → Nat → Int) (P : PS) (w wB : World) (hW : PW w s ob lb n G a S A P) (d : Apart s ob lb n a)
    (hS1 : 0 < G → S.opn = .slice (some ⟨ob, 0, none⟩) G co) (hS2 : S.last = .slice (some ⟨lb, 0, none⟩) G G) (hf : FreshIs w s ob lb n a fk S.fresh nf gF)
    (hnf2 : nf ≤ 65536) (hfk : ∀ i, i < nf → fk i < n) (hT : IsT wB n A T) (hSm : Small A n) (hR : ∀ i, i < nf → InR (T (fk i)) 0 G (A (fk i)).tl)
    (hB : Below wB.heap.size wB w) (gO : wB.heap.size ≤ ob) (gL : wB.heap.size ≤ lb) (gA : ∀ l, l < n → wB.heap.size ≤ a l) :
    Calls Try.prog 63 #[.pointer (some ⟨s, 0, none⟩)] w fun e w' => e = .returned (.tuple #[]) ∧
      ∃ x y, PW w' s ob lb n G a { S with fresh := .slice x 0 y } A (endJ A T fk P nf) ∧ Fr (fun i => Wr G ob lb n a i ∨ i = s ∨ i = gF) w w' := by
  rcases hf with ⟨h0, hv⟩ | ⟨cF, cur, hv, h0, hb, hc, d1, d2, d3, d4⟩
  · subst h0
    refine (end_nil s S w hW.hs hv).mono ?_
    rintro e w' ⟨rfl, hb, hF⟩
    refine ⟨rfl, none, 0, ?_, hF.mono (fun _ _ q => .inr (.inl q))⟩
    have : { S with fresh := .slice none 0 0 } = S := by rw [← hv]
    rw [this]
    exact hW.sum d hF hb
  · refine (end_some s ob lb n G co gF cF nf cur a fk S A T P w wB hW d hS1 hS2 hv hb hc h0 hnf2 hfk hT hSm hR hB gO gL gA d1 d2 d3 d4).mono ?_
    rintro e w' ⟨rfl, h1, h2⟩
    exact ⟨rfl, _, _, h1, h2⟩

theorem Hid.mk' {p : Prop} (h : p) : Hid p := h

/-- What advance leaves, all in one. -/
structure AW (w : World) (s ob lb n G m B : Nat) (a : Nat → Nat) (S : Sum) (A : Nat → AR) (P : PS) (E : List (Int × Nat)) (M : ByteArray → Option Value) : Prop where
  pw : PW w s ob lb n G a S A P
  wi : Win w B S.ex (adr a E)
  mp : MapS w m M

/-- All lie below B. -/
structure Low (s ob lb n m B : Nat) (a : Nat → Nat) : Prop where
  bs : s < B
  bo : ob < B
  bl : lb < B
  bm : m < B
  ba : ∀ k, k < n → a k < B
  ms : m ≠ s
  mo : m ≠ ob
  ml : m ≠ lb
  ma : ∀ k, k < n → m ≠ a k

/-- Only the queue's block is written. -/
theorem AW.far {w w' : World} {s ob lb n G m B : Nat} {a : Nat → Nat} {S : Sum} {A : Nat → AR} {P : PS} {M : ByteArray → Option Value} (hp : PW w s ob lb n G a S A P) (hm : MapS w m M) (lo : Low s ob lb n m B a) (f : Fr (fun i => B ≤ i) w w') : PW w' s ob lb n G a S A P ∧ MapS w' m M :=
  ⟨hp.fr f (fun q => by have := lo.bs; omega) (fun q => by have := lo.bo; omega) (fun q => by have := lo.bl; omega) (fun k hk q => by have := lo.ba k hk; omega), hm.fr f (fun q => by have := lo.bm; omega)⟩

theorem AW.below {w w' : World} {s ob lb n G m B : Nat} {a : Nat → Nat} {S : Sum} {A : Nat → AR} {P : PS} {E : List (Int × Nat)} {M : ByteArray → Option Value} (h : AW w s ob lb n G m B a S A P E M) (hb : Below w.heap.size w w') : AW w' s ob lb n G m B a S A P E M :=
  ⟨h.pw.below hb, h.wi.kept (fun k _ hk => hb.block k hk), h.mp.below hb⟩

/-- An entry pushed, behind the append. -/
theorem AW.pushed {w w1 w9 : World} {s ob lb n G m B k : Nat} {h : Int} {a : Nat → Nat} {S : Sum} {v v9 : Value} {A : Nat → AR} {P : PS} {R : List (Int × Nat)} {D : ByteArray → Option Value} (hA : AW w s ob lb n G m B a { S with ex := v } A P R D) (d : Apart s ob lb n a) (lo : Low s ob lb n m B a)
    (hb : Below w.heap.size w w1) (hf : Fr (fun i => some i = v.ownBlock) w1 w9) (hw : Win w9 B v9 (adr a R ++ [(h, a k)])) :
    Blk w9 s (Sum.cells { S with ex := v }) 96 ∧ AW (w9.setCell ⟨s, 21, none⟩ v9) s ob lb n G m B a { S with ex := v9 } A P (R ++ [(h, k)]) D ∧ Fr (fun i => i = s ∨ B ≤ i) w (w9.setCell ⟨s, 21, none⟩ v9) := by
  have hob : ∀ i, some i = v.ownBlock → B ≤ i := fun i hi => (hA.wi.lt i hi).1
  have F1 : Fr (fun i => B ≤ i) w w9 := (Fr.ofBelow (O := fun i => B ≤ i) hb).trans hf (fun i _ q => hob i q)
  obtain ⟨h1, h2⟩ := AW.far hA.pw hA.mp lo F1
  have F2 : Fr (· = s) w9 (w9.setCell ⟨s, 21, none⟩ v9) := (Fr.refl _ _).setAt _ _
  refine ⟨h1.hs, ⟨h1.sum d F2 (h1.hs.set 21 v9), ?_, h2.fr F2 lo.ms⟩, (F1.mono (fun _ _ q => .inr q)).trans F2 (fun _ _ q => .inl q)⟩
  rw [adr_append]
  exact hw.kept (fun i hi _ => Below.heap_setCell _ _ _ _ (by have := lo.bs; show i ≠ s; omega))

set_option maxRecDepth 100000 in
set_option maxHeartbeats 4000000 in
theorem adv_any (s ob lb n G co gF nf m B ne : Nat) (t : Int) (a fk : Nat → Nat) (S : Sum) (A : Nat → AR) (T : Nat → Nat → Int) (P : PS) (ex : Nat → Int × Int) (M : ByteArray → Option Value) (w wB : World)
    (hW : AW w s ob lb n G m B a S A P (qu ex ne) M) (d : Apart s ob lb n a) (lo : Low s ob lb n m B a) (hnow : S.now < t)
    (hS1 : 0 < G → S.opn = .slice (some ⟨ob, 0, none⟩) G co) (hS2 : S.last = .slice (some ⟨lb, 0, none⟩) G G) (hS4 : S.mp = .map (some m)) (hf : FreshIs w s ob lb n a fk S.fresh nf gF)
    (hnf2 : nf ≤ 65536) (hne : ne ≤ 65536) (hfk : ∀ i, i < nf → fk i < n) (hT : IsT wB n A T) (hSm : Small A n) (hR : ∀ i, i < nf → InR (T (fk i)) 0 G (A (fk i)).tl) (hex : InR (fun i => (ex i).2) 0 n ne)
    (hB : Below wB.heap.size wB w) (gO : wB.heap.size ≤ ob) (gL : wB.heap.size ≤ lb) (gA : ∀ l, l < n → wB.heap.size ≤ a l) (gFB : gF < B) (gFm : gF ≠ m) (hBw : B ≤ w.heap.size) :
    Calls Try.prog 51 #[.pointer (some ⟨s, 0, none⟩), .int .i64 t] w fun e w' => e = .returned (.tuple #[]) ∧
      ∃ x y v j, Pre t S.linger ex ne j ∧ AW w' s ob lb n G m B a { S with fresh := .slice x 0 y, now := t, ex := v } A (endJ A T fk P nf) ((qu ex ne).drop j ++ rq t S.linger (fun k => (A k).h) ex j) (dl t S.linger (fun k => (A k).h) (fun k => (A k).id) ex M j) ∧
        Fr (fun i => Wr G ob lb n a i ∨ i = s ∨ i = gF ∨ i = m ∨ B ≤ i) w w' := by
  have c16 : w.cell? ⟨s, 16, none⟩ = some (.int .i64 S.now) := hW.pw.hs.cell rfl
  have HD : Hid (Apart s ob lb n a) := d
  have HLo : Hid (Low s ob lb n m B a) := lo
  have HEX : Hid (InR (fun i => (ex i).2) 0 n ne) := hex
  have HW : Hid (AW w s ob lb n G m B a S A P (qu ex ne) M) := hW
  have H4 : Hid (S.mp = .map (some m)) := hS4
  have HEnd := end_any s ob lb n G co gF nf a fk S A T P w wB hW.pw d hS1 hS2 hf hnf2 hfk hT hSm hR hB gO gL gA
  have HE : Hid (Calls Try.prog 63 #[.pointer (some ⟨s, 0, none⟩)] w fun e w' => e = .returned (.tuple #[]) ∧
      ∃ x y, PW w' s ob lb n G a { S with fresh := .slice x 0 y } A (endJ A T fk P nf) ∧ Fr (fun i => Wr G ob lb n a i ∨ i = s ∨ i = gF) w w') := HEnd
  clear HEnd d lo hW hS1 hS2 hS4 hf hnf2 hfk hT hSm hR hex hB gO gL gA
  go_enter Try.func51, Try.ntmps51
  go_wp2_with fail
  refine HE.out.mono ?_
  rintro e w1 ⟨rfl, x, y, hP1, hF1⟩
  clear HE c16
  have z1 := hF1.size
  have d16 : w1.cell? ⟨s, 16, none⟩ = some (.int .i64 S.now) := hP1.hs.cell rfl
  have f16 := hP1.hs.frozen 16
  obtain ⟨S1, hS1⟩ : ∃ S1 : Sum, S1 = { S with fresh := .slice x 0 y, now := t } := ⟨_, rfl⟩
  have HS1 : Hid (S1 = { S with fresh := .slice x 0 y, now := t }) := hS1
  have hb2 : Blk (w1.setCell ⟨s, 16, none⟩ (.int .i64 t)) s S1.cells 96 := by rw [hS1]; exact hP1.hs.set 16 _
  have F2 : Fr (· = s) w1 (w1.setCell ⟨s, 16, none⟩ (.int .i64 t)) := (Fr.refl _ _).setAt _ _
  have hP2 := hP1.sum HD.out F2 hb2
  have hq1 : ∀ i, B ≤ i → i < w.heap.size → w1.heap[i]? = w.heap[i]? := fun i h1 h2 => hF1.block i h2 (by
    rintro ((q | q | ⟨k, hk, q⟩) | q | q)
    · have := HLo.out.bo; omega
    · have := HLo.out.bl; omega
    · have := HLo.out.ba k hk; omega
    · have := HLo.out.bs; omega
    · omega)
  have hm1 : MapS w1 m M := HW.out.mp.fr hF1 (by
    rintro ((q | q | ⟨k, hk, q⟩) | q | q)
    · exact HLo.out.mo q.2
    · exact HLo.out.ml q
    · exact HLo.out.ma k hk q
    · exact HLo.out.ms q
    · exact gFm q.symm)
  have hm2 : MapS (w1.setCell ⟨s, 16, none⟩ (.int .i64 t)) m M := hm1.fr F2 HLo.out.ms
  have hx2 : Win (w1.setCell ⟨s, 16, none⟩ (.int .i64 t)) B S.ex (adr a (qu ex ne)) := (HW.out.wi.kept hq1).kept (fun i h1 _ => Below.heap_setCell _ _ _ _ (by have := HLo.out.bs; show i ≠ s; omega))
  have F3 : Fr (fun i => Wr G ob lb n a i ∨ i = s ∨ i = gF ∨ i = m ∨ B ≤ i) w (w1.setCell ⟨s, 16, none⟩ (.int .i64 t)) :=
    (hF1.mono (fun _ _ q => q.elim .inl (fun q => q.elim (fun q => .inr (.inl q)) (fun q => .inr (.inr (.inl q)))))).trans F2 (fun _ _ q => .inr (.inl q))
  have HA2 : Hid (AW (w1.setCell ⟨s, 16, none⟩ (.int .i64 t)) s ob lb n G m B a S1 A (endJ A T fk P nf) (qu ex ne) M) := by
    refine ⟨hP2, ?_, hm2⟩
    rw [hS1]; exact hx2
  have HF3 : Hid (Fr (fun i => Wr G ob lb n a i ∨ i = s ∨ i = gF ∨ i = m ∨ B ≤ i) w (w1.setCell ⟨s, 16, none⟩ (.int .i64 t))) := F3
  clear hS1 hb2 F2 hP2 hq1 hm1 hm2 hx2 F3 hP1 hF1 HW
  go_wp2
  revert HA2 HF3
  generalize w1.setCell ⟨s, 16, none⟩ (.int .i64 t) = w2
  intro HA2 HF3
  clear d16 f16
  go_loopg [4] ne (fun g _ wr => ∃ (j : Nat) (v : Value), j ≤ ne ∧ g = ne - j ∧ Old t S.linger ex j ∧ AW wr s ob lb n G m B a { S1 with ex := v } A (endJ A T fk P nf) ((qu ex ne).drop j ++ rq t S.linger (fun k => (A k).h) ex j) (dl t S.linger (fun k => (A k).h) (fun k => (A k).id) ex M j) ∧ Fr (fun i => Wr G ob lb n a i ∨ i = s ∨ i = gF ∨ i = m ∨ B ≤ i) w wr)
  case atStart => exact ⟨0, S1.ex, Nat.zero_le _, rfl, Old.zero _ _ _, by rw [List.drop_zero, show rq t S.linger (fun k => (A k).h) ex 0 = [] from rfl, List.append_nil]; exact HA2.out, HF3.out⟩
  case round =>
    clear HA2 HF3
    obtain ⟨j, v, hj, hg, hO, hA, hF⟩ := hrel
    have HO : Hid (Old t S.linger ex j) := hO
    have HA : Hid (AW wr s ob lb n G m B a { S1 with ex := v } A (endJ A T fk P nf) ((qu ex ne).drop j ++ rq t S.linger (fun k => (A k).h) ex j) (dl t S.linger (fun k => (A k).h) (fun k => (A k).id) ex M j)) := hA
    have HF : Hid (Fr (fun i => Wr G ob lb n a i ∨ i = s ∨ i = gF ∨ i = m ∨ B ≤ i) w wr) := hF
    clear hO hA hF
    have c0 : wr.cell? ⟨s, 0, none⟩ = some (.int .i64 S.linger) := by have := HA.out.pw.hs.cell (j := 0) (v := .int .i64 S1.linger) rfl; rw [HS1.out] at this; exact this
    by_cases hlt : j < ne ∧ S.linger < wrap64 (t - (ex j).1)
    · obtain ⟨hlt, hc⟩ := hlt
      obtain ⟨k1, k2⟩ := HEX.out j hlt
      obtain ⟨k, hk⟩ : ∃ k : Nat, (ex j).2 = k := ⟨(ex j).2.toNat, by dsimp only at k1; omega⟩
      have hkn : k < n := by dsimp only at k2; omega
      have hkt : (ex j).2.toNat = k := by omega
      obtain ⟨R, HR⟩ : ∃ R, Hid (R = (qu ex ne).drop (j + 1) ++ rq t S.linger (fun k => (A k).h) ex j) := ⟨_, rfl⟩
      have hE : (qu ex ne).drop j ++ rq t S.linger (fun k => (A k).h) ex j = ((ex j).1, k) :: R := by rw [qu_drop ex hlt, HR.out, hkt]; rfl
      obtain ⟨u, hu⟩ : ∃ u, (ex j).1 = u := ⟨_, rfl⟩
      have HU : Hid ((ex j).1 = u ∧ (ex j).2.toNat = k) := ⟨hu, hkt⟩
      rw [hu] at hc hE
      obtain ⟨D, HDl⟩ : ∃ D, Hid (D = dl t S.linger (fun k => (A k).h) (fun k => (A k).id) ex M j) := ⟨_, rfl⟩
      have HA1 : Hid (AW wr s ob lb n G m B a { S1 with ex := v } A (endJ A T fk P nf) ((u, k) :: R) D) := by
        show AW wr s ob lb n G m B a { S1 with ex := v } A (endJ A T fk P nf) ((u, k) :: R) D
        rw [← hE, HDl.out]; exact HA.out
      clear HA hE hu hkt hk k1 k2
      have wi1 : Win wr B v ((u, a k) :: adr a R) := HA1.out.wi
      obtain ⟨g, off, cap, hv, gB, gl, hcap, q0, q1, hfz, _⟩ := wi1.pop
      rw [adr_len] at hv hcap
      subst hv
      have c21 : wr.cell? ⟨s, 21, none⟩ = some (.slice (some ⟨g, off, none⟩) (R.length + 1) cap) := HA1.out.pw.hs.cell rfl
      clear hfz wi1
      go_wp2
      go_quiet (fail)
      generalize hwq : World.drewN wr nq = wq
      have HA2 : Hid (AW wq s ob lb n G m B a { S1 with ex := .slice (some ⟨g, off, none⟩) (R.length + 1) cap } A (endJ A T fk P nf) ((u, k) :: R) D) := by
        rw [← hwq]; exact HA1.out.below (below_drewN (Below.refl _ _) _)
      have HF2 : Hid (Fr (fun i => Wr G ob lb n a i ∨ i = s ∨ i = gF ∨ i = m ∨ B ≤ i) w wq) := by rw [← hwq]; exact HF.out.drewN _
      clear hwq HA1 HF c0 c21 q0 q1 gB gl hcap
      have wi2 : Win wq B (.slice (some ⟨g, off, none⟩) (R.length + 1) cap) ((u, a k) :: adr a R) := HA2.out.wi
      obtain ⟨g', off', cap', hv', gB, gl, hcap, q0, q1, hfz, hpop⟩ := wi2.pop
      rw [adr_len] at hv' hcap hpop
      simp only [Value.slice.injEq, Option.some.injEq, Addr.mk.injEq, and_true, true_and] at hv'
      obtain ⟨⟨rfl, rfl⟩, rfl⟩ := hv'
      have HPop := Hid.mk' hpop
      clear hpop wi2
      have c21 : wq.cell? ⟨s, 21, none⟩ = some (.slice (some ⟨g, off, none⟩) (R.length + 1) cap) := HA2.out.pw.hs.cell rfl
      have f21 := HA2.out.pw.hs.frozen 21
      have fz0 := hfz off
      have fz1 := hfz (off + 1)
      have gs : ¬ g = s := by have := HLo.out.bs; omega
      have sg : ¬ s = g := by have := HLo.out.bs; omega
      clear hfz
      go_upto_region 6 with fail
      go_cut [] from 17 to 93 (fun wx => ∃ v', AW wx s ob lb n G m B a { S1 with ex := v' } A (endJ A T fk P nf) R D ∧ Fr (fun i => Wr G ob lb n a i ∨ i = s ∨ i = gF ∨ i = m ∨ B ≤ i) w wx)
      case first =>
        have key : ∀ v', Win ((wq.setCell ⟨g, off, none⟩ (.int .i64 0)).setCell ⟨g, off + 1, none⟩ (.pointer none)) B v' (adr a R) →
            ∃ v'', AW (((wq.setCell ⟨g, off, none⟩ (.int .i64 0)).setCell ⟨g, off + 1, none⟩ (.pointer none)).setCell ⟨s, 21, none⟩ v') s ob lb n G m B a { S1 with ex := v'' } A (endJ A T fk P nf) R D ∧ Fr (fun i => Wr G ob lb n a i ∨ i = s ∨ i = gF ∨ i = m ∨ B ≤ i) w (((wq.setCell ⟨g, off, none⟩ (.int .i64 0)).setCell ⟨g, off + 1, none⟩ (.pointer none)).setCell ⟨s, 21, none⟩ v') := by
          intro v' hw
          have F1 : Fr (fun i => B ≤ i) wq ((wq.setCell ⟨g, off, none⟩ (.int .i64 0)).setCell ⟨g, off + 1, none⟩ (.pointer none)) :=
            ((Fr.refl _ _).setCell (p := ⟨g, off, none⟩) (.inl gB) _).setCell (p := ⟨g, off + 1, none⟩) (.inl gB) _
          obtain ⟨h1, h2⟩ := AW.far HA2.out.pw HA2.out.mp HLo.out F1
          have F2 : Fr (· = s) ((wq.setCell ⟨g, off, none⟩ (.int .i64 0)).setCell ⟨g, off + 1, none⟩ (.pointer none)) (((wq.setCell ⟨g, off, none⟩ (.int .i64 0)).setCell ⟨g, off + 1, none⟩ (.pointer none)).setCell ⟨s, 21, none⟩ v') := (Fr.refl _ _).setAt _ _
          refine ⟨v', ⟨h1.sum HD.out F2 (h1.hs.set 21 v'), hw.kept (fun i hi _ => Below.heap_setCell _ _ _ _ (by have := HLo.out.bs; show i ≠ s; omega)), h2.fr F2 HLo.out.ms⟩, ?_⟩
          exact (HF2.out.trans F1 (fun _ _ q => .inr (.inr (.inr (.inr q))))).trans F2 (fun _ _ q => .inr (.inl q))
        have Hkey := Hid.mk' key
        clear key
        go_wp2
        · go_meet
          first | exact Hkey.out _ HPop.out.1 | exact Hkey.out _ (HPop.out.2 (by omega))
        · go_meet
          first | exact Hkey.out _ HPop.out.1 | exact Hkey.out _ (HPop.out.2 (by omega))
      case rest =>
        obtain ⟨v', hA3, hF3⟩ := hcut
        have HA3 := Hid.mk' hA3
        have HF3 := Hid.mk' hF3
        clear hA3 hF3 HA2 HF2 HPop c21 f21 fz0 fz1 gs sg q0 q1 gB gl hcap
        have ch : wc.cell? ⟨a k, 14, none⟩ = some (.int .i64 (A k).h) := (HA3.out.pw.hr k hkn).cell rfl
        have c0 : wc.cell? ⟨s, 0, none⟩ = some (.int .i64 S.linger) := by have := HA3.out.pw.hs.cell (j := 0) (v := .int .i64 S1.linger) rfl; rw [HS1.out] at this; exact this
        go_wp2
        go_quiet (fail)
        generalize hwq : World.drewN wc nq = wd
        have HA4 : Hid (AW wd s ob lb n G m B a { S1 with ex := v' } A (endJ A T fk P nf) R D) := by
          rw [← hwq]; exact HA3.out.below (below_drewN (Below.refl _ _) _)
        have HF4 : Hid (Fr (fun i => Wr G ob lb n a i ∨ i = s ∨ i = gF ∨ i = m ∨ B ≤ i) w wd) := by rw [← hwq]; exact HF3.out.drewN _
        clear hwq HA3 HF3 ch c0
        have zd := HF4.out.size
        by_cases hh : wrap64 (t - (A k).h) ≤ S.linger
        · obtain ⟨ao, c', hv'⟩ := HA4.out.wi.form
          rw [adr_len] at hv'
          have hv' : v' = .slice ao R.length c' := hv'
          subst hv'
          have c21 : wd.cell? ⟨s, 21, none⟩ = some (.slice ao R.length c') := HA4.out.pw.hs.cell rfl
          have ch : wd.cell? ⟨a k, 14, none⟩ = some (.int .i64 (A k).h) := (HA4.out.pw.hr k hkn).cell rfl
          have hRl : (adr a R).length ≤ 1000000 := by
            rw [adr_len, HR.out, List.length_append, List.length_drop, qu_len]
            have := rq_len t S.linger (fun k => (A k).h) ex j
            omega
          have hBd : B ≤ wd.heap.size := by omega
          go_wp2
          have HB1 : Hid (Below wd.heap.size wd (wd.drew.alloc (.cells #[.int .i64 (A k).h, .pointer (some ⟨a k, 0, none⟩)] 101))) := (Below.refl _ _).drew.alloc (Nat.le_refl _) _
          have HB2 : Hid (Below wd.heap.size wd (wd.alloc (.cells #[.int .i64 (A k).h, .pointer (some ⟨a k, 0, none⟩)] 101)).drew) := ((Below.refl _ _).alloc (Nat.le_refl _) _).drew
          have lts : s < wd.heap.size := HA4.out.pw.hs.lt
          have lta : a k < wd.heap.size := (HA4.out.pw.hr k hkn).lt
          go_region_law (refine step_append_win rfl (.tmp 75) (.tmp 82) rfl (B := B) (v := .slice ao R.length c') (E := adr a R) (by simp [Act.eval]) (Win.kept HA4.out.wi (fun i _ hi => by first | exact Below.heap_alloc _ _ _ hi | exact Below.heap_alloc wd _ _ hi)) (by simpa using (by omega : B ≤ wd.heap.size + 1)) hRl (A k).h (a k) wd.heap.size (by simp [Act.eval]) (by first | exact Blk.new _ _ _ | exact (Blk.new wd _ _).drew) ?_; intro ao2 cap2 w9 hw9 hf9; have hpu := AW.pushed (k := k) HA4.out HD.out HLo.out (by first | exact HB1.out | exact HB2.out) hf9 hw9; have g21 : w9.cell? ⟨s, 21, none⟩ = some (.slice ao R.length c') := hpu.1.cell rfl; have g21f := hpu.1.frozen 21; have HPU := Hid.mk' hpu.2; clear hpu hw9 hf9)
          all_goals
            go_wp2
            go_roundg (ne - (j + 1))
            case measure => omega
            case rel =>
              refine ⟨j + 1, .slice ao2 ((adr a R).length + 1) cap2, by omega, rfl, HO.out.step (by rw [HU.out.1]; exact hc), ?_, HF4.out.trans HPU.out.2 (fun _ _ q => q.elim (fun q => .inr (.inl q)) (fun q => .inr (.inr (.inr (.inr q)))))⟩
              have e1 : rq t S.linger (fun k => (A k).h) ex (j + 1) = rq t S.linger (fun k => (A k).h) ex j ++ [((A k).h, k)] := by rw [rq, HU.out.2, if_pos hh]
              have e2 : dl t S.linger (fun k => (A k).h) (fun k => (A k).id) ex M (j + 1) = D := by rw [dl, HU.out.2, if_pos hh, HDl.out]
              rw [e1, e2, ← List.append_assoc, ← HR.out]
              exact HPU.out.1
        · have c20 : wd.cell? ⟨s, 20, none⟩ = some (.map (some m)) := by
            have := HA4.out.pw.hs.cell (j := 20) (v := S1.mp) rfl
            rw [HS1.out] at this
            rw [← H4.out]; exact this
          have cid : wd.cell? ⟨a k, 0, none⟩ = some (.string (A k).id) := (HA4.out.pw.hr k hkn).cell rfl
          obtain ⟨w8, hdel, hm8, f8⟩ := (HA4.out.mp.below (w' := wd.drew) (Below.refl _ _).drew).del Try.underlying93 (A k).id
          have HP8 : Hid (AW w8 s ob lb n G m B a { S1 with ex := v' } A (endJ A T fk P nf) R (upM D (A k).id none)) := by
            refine ⟨(HA4.out.pw.below (Below.refl _ _).drew).fr f8 (fun q => HLo.out.ms q.symm) (fun q => HLo.out.mo q.symm) (fun q => HLo.out.ml q.symm) (fun k hk q => HLo.out.ma k hk q.symm), ?_, hm8⟩
            exact (HA4.out.wi.kept (w' := wd.drew) (fun _ _ _ => rfl)).kept (fun i hi hl => f8.block i hl (fun q => by have := HLo.out.bm; omega))
          have HF8 : Hid (Fr (fun i => Wr G ob lb n a i ∨ i = s ∨ i = gF ∨ i = m ∨ B ≤ i) w w8) := HF4.out.drew.trans f8 (fun _ _ q => .inr (.inr (.inr (.inl q))))
          clear hm8 f8
          go_wp2
          go_region
          all_goals
            go_wp2
            go_roundg (ne - (j + 1))
            case measure => omega
            case rel =>
              refine ⟨j + 1, v', by omega, rfl, HO.out.step (by rw [HU.out.1]; exact hc), ?_, HF8.out⟩
              have e1 : rq t S.linger (fun k => (A k).h) ex (j + 1) = rq t S.linger (fun k => (A k).h) ex j := by rw [rq, HU.out.2, if_neg (by omega), List.append_nil]
              have e2 : dl t S.linger (fun k => (A k).h) (fun k => (A k).id) ex M (j + 1) = upM D (A k).id none := by rw [dl, HU.out.2, if_neg (by omega), HDl.out]
              rw [e1, e2, ← HR.out]
              exact HP8.out
    · have hPre : Pre t S.linger ex ne j := ⟨hj, HO.out, fun h => by omega⟩
      have hE : (qu ex ne).drop j ++ rq t S.linger (fun k => (A k).h) ex j = [] ∨ ∃ u k R, (qu ex ne).drop j ++ rq t S.linger (fun k => (A k).h) ex j = (u, k) :: R ∧ wrap64 (t - u) ≤ S.linger := by
        by_cases hjn : j < ne
        · rw [qu_drop ex hjn]
          exact .inr ⟨_, _, _, rfl, by omega⟩
        · have e0 : (qu ex ne).drop j = [] := List.drop_eq_nil_of_le (by rw [qu_len]; omega)
          rw [e0, List.nil_append]
          cases hq : rq t S.linger (fun k => (A k).h) ex j with
          | nil => exact .inl rfl
          | cons x r =>
            obtain ⟨u, k⟩ := x
            exact .inr ⟨u, k, r, rfl, rq_old t S.linger (fun k => (A k).h) ex j (u, k) (by rw [hq]; exact List.mem_cons_self)⟩
      have HQ : Hid (Pre t S.linger ex ne j) := hPre
      have Hend : Hid (∀ wx, Below wr.heap.size wr wx → ∃ x y v j, Pre t S.linger ex ne j ∧ AW wx s ob lb n G m B a { S with fresh := .slice x 0 y, now := t, ex := v } A (endJ A T fk P nf) ((qu ex ne).drop j ++ rq t S.linger (fun k => (A k).h) ex j) (dl t S.linger (fun k => (A k).h) (fun k => (A k).id) ex M j) ∧
        Fr (fun i => Wr G ob lb n a i ∨ i = s ∨ i = gF ∨ i = m ∨ B ≤ i) w wx) := fun wx hb => by
        refine ⟨x, y, v, j, hPre, ?_, HF.out.trans (Fr.ofBelow (O := fun _ => False) hb) (fun _ _ q => q.elim)⟩
        have := HA.out.below hb
        rw [HS1.out] at this
        exact this
      have wi1 := HA.out.wi
      have hs1 := HA.out.pw.hs
      clear hPre hlt
      rcases hE with hE | ⟨u, k, R, hE, hu⟩
      · rw [hE] at wi1
        obtain ⟨ao, c', hv⟩ := wi1.form
        have hv' : v = .slice ao 0 c' := hv
        have c21 : wr.cell? ⟨s, 21, none⟩ = some (.slice ao 0 c') := by rw [← hv']; exact hs1.cell rfl
        clear hv hv' hE wi1 hs1
        go_wp2
        go_quiet (fail)
        go_wp2
        go_end0
        exact ⟨rfl, Hend.out _ (below_drewN (Below.refl _ _) _)⟩
      · rw [hE] at wi1
        have wi2 : Win wr B v ((u, a k) :: adr a R) := wi1
        obtain ⟨g, off, cap, hv, gB, gl, hcap, q0, q1, hfz, _⟩ := wi2.pop
        rw [adr_len] at hv hcap
        have c21 : wr.cell? ⟨s, 21, none⟩ = some (.slice (some ⟨g, off, none⟩) (R.length + 1) cap) := by rw [← hv]; exact hs1.cell rfl
        clear hv hE wi1 wi2 hs1 hfz
        go_wp2
        go_quiet (fail)
        go_wp2
        go_end0
        exact ⟨rfl, Hend.out _ (below_drewN (Below.refl _ _) _)⟩

end Go.Proofs.Qxb6619458a
