import Derived.Test.Qxb6619458aMapOne
namespace Go.Proofs.Qxb6619458a
open Go.RowKit
attribute [local go_sem ↓] Go.wp_at_zero Go.wp_at_succ

/-- The summary, moved on to t. -/
def nowOf (S : Sum) (t : Int) : Sum := { S with now := if S.now < t then t else S.now }
theorem nowOf_no {S : Sum} {t : Int} (h : t ≤ S.now) : nowOf S t = S := by
  obtain ⟨a, b, c, d, e, f, g, i, j⟩ := S
  have h' : ¬ d < t := by simp only at h; omega
  simp [nowOf, h']
theorem nowOf_yes {S : Sum} {t : Int} (h : S.now < t) : nowOf S t = { S with now := t } := by
  obtain ⟨a, b, c, d, e, f, g, i, j⟩ := S
  simp only at h
  simp [nowOf, h]

theorem Fr.drewN {O : Nat → Prop} {a b : World} (h : Fr O a b) (n : Nat) : Fr O a (b.drewN n) :=
  h.trans (Fr.ofBelow (O := fun _ => False) (below_drewN (Below.refl _ _) n)) (fun _ _ q => q.elim)

set_option maxRecDepth 100000 in
set_option maxHeartbeats 1000000 in
theorem adv_nil (s B : Nat) (S : Sum) (t : Int) (w : World) (hs : Blk w s S.cells 96) (hf : S.fresh = .slice none 0 0) (hx : Ex w B S.ex []) :
    Calls Try.prog 51 #[.pointer (some ⟨s, 0, none⟩), .int .i64 t] w fun e w' => e = .returned (.tuple #[]) ∧ Blk w' s (nowOf S t).cells 96 ∧ Fr (· = s) w w' := by
  have c16 : w.cell? ⟨s, 16, none⟩ = some (.int .i64 S.now) := hs.cell rfl
  by_cases hle : t ≤ S.now
  · rw [nowOf_no hle]
    clear hf hx
    go_enter Try.func51, Try.ntmps51
    go_wp2
    refine bodyPost_ret (results_none rfl _ _ _) rfl ?_
    exact ⟨rfl, hs, Fr.refl _ _⟩
  · rw [nowOf_yes (by omega)]
    obtain ⟨ao, c, hv⟩ := hx.form
    have hv : S.ex = .slice ao 0 c := hv
    clear hx
    have HV : Hid (S.ex = .slice ao 0 c) := hv
    have HF : Hid (S.fresh = .slice none 0 0) := hf
    clear hv hf
    go_enter Try.func51, Try.ntmps51
    go_wp2_with fail
    refine (end_nil s S w hs HF.out).mono ?_
    rintro e w1 ⟨rfl, b1, f1⟩
    have f16 := b1.frozen 16
    have d16 : w1.cell? ⟨s, 16, none⟩ = some (.int .i64 S.now) := b1.cell rfl
    have d21 : w1.cell? ⟨s, 21, none⟩ = some (.slice ao 0 c) := by rw [← HV.out]; exact b1.cell rfl
    have b2 : Blk (w1.setCell ⟨s, 16, none⟩ (.int .i64 t)) s (Sum.cells { S with now := t }) 96 := b1.set 16 _
    have f2 : Fr (· = s) w (w1.setCell ⟨s, 16, none⟩ (.int .i64 t)) := f1.setAt _ _
    have e21 : (w1.setCell ⟨s, 16, none⟩ (.int .i64 t)).cell? ⟨s, 21, none⟩ = some (.slice ao 0 c) := by rw [← HV.out]; exact b2.cell rfl
    clear c16 hs
    go_wp2
    revert b2 f2 e21
    generalize w1.setCell ⟨s, 16, none⟩ (.int .i64 t) = w2
    intro b2 f2 e21
    go_loopw [] (fun wr => wr = w2) (fun _ => 0)
    case atStart => rfl
    case round =>
      subst hrel
      go_wp2
      go_quiet (fail)
      go_wp2
      go_end0
      exact ⟨rfl, b2.below (below_drewN (Below.refl _ _) _), f2.drewN _⟩

/-- What everywhere makes of the record. -/
def evR (R : Rec) (t : Int) : Rec := { R with ev := true, h := if R.de then t else R.h }
def evE (R : Rec) (t : Int) (r : Nat) : List (Int × Nat) := if R.de then [(t, r)] else []
theorem evR_no {R : Rec} {t : Int} (h : R.de = false) : evR R t = { R with ev := true } := by
  obtain ⟨a, b, c, d, e, f, g, i⟩ := R
  simp only at h
  subst h
  rfl
theorem evR_yes {R : Rec} {t : Int} (h : R.de = true) : evR R t = { R with ev := true, h := t } := by
  obtain ⟨a, b, c, d, e, f, g, i⟩ := R
  simp only at h
  subst h
  rfl

set_option maxRecDepth 100000 in
set_option maxHeartbeats 1000000 in
theorem every_any (s r m B : Nat) (S : Sum) (R : Rec) (id : ByteArray) (t : Int) (w : World) (hs : Blk w s S.cells 96) (hr : Blk w r R.cells 99) (hne : s ≠ r) (hms : m ≠ s) (hsB : s < B) (hrB : r < B) (hB : B ≤ w.heap.size)
    (hf : S.fresh = .slice none 0 0) (hx : Ex w B S.ex []) (hm : S.mp = .map (some m)) (ho : One w m id r) :
    Calls Try.prog 56 #[.pointer (some ⟨s, 0, none⟩), .string id, .int .i64 t] w fun e w' => e = .returned (.tuple #[]) ∧
      ∃ v', Blk w' s (Sum.cells { nowOf S t with ex := v' }) 96 ∧ Blk w' r (evR R t).cells 99 ∧ Ex w' B v' (evE R t r) ∧ Fr (fun i => i = s ∨ i = r ∨ some i = S.ex.ownBlock) w w' := by
  have HM : Hid (S.mp = .map (some m)) := hm
  clear hm
  have hne' : ¬ r = s := fun q => hne q.symm
  go_enter Try.func56, Try.ntmps56
  go_wp2_with fail
  refine (adv_nil s B S t w hs hf hx).mono ?_
  rintro e w1 ⟨rfl, b1, f1⟩
  clear hf
  have r1 := hr.fr f1 hne'
  have o1 := ho.fr f1 hms
  have x1 : Ex w1 B S.ex [] := hx.kept (fun k hk hk2 => f1.block k hk2 (by omega))
  have z1 := f1.size
  have d20 : w1.cell? ⟨s, 20, none⟩ = some (.map (some m)) := by rw [← HM.out]; exact b1.cell rfl
  have hl := o1.look
  have e7 : w1.cell? ⟨r, 7, none⟩ = some (.bool R.ev) := r1.cell rfl
  have f7 := r1.frozen 7
  have b2 : Blk (w1.setCell ⟨r, 7, none⟩ (.bool true)) s (nowOf S t).cells 96 := b1.other (a := ⟨r, 7, none⟩) hne _
  have r2 : Blk (w1.setCell ⟨r, 7, none⟩ (.bool true)) r (Rec.cells { R with ev := true }) 99 := r1.set 7 _
  have x2 : Ex (w1.setCell ⟨r, 7, none⟩ (.bool true)) B S.ex [] := ownsRow_setCell_below x1 (a := ⟨r, 7, none⟩) hrB _
  have f2 : Fr (fun i => i = s ∨ i = r ∨ some i = S.ex.ownBlock) w (w1.setCell ⟨r, 7, none⟩ (.bool true)) :=
    (f1.mono (fun _ _ q => .inl q)).setCell (p := ⟨r, 7, none⟩) (.inl (.inr (.inl rfl))) _
  have z2 : B ≤ (w1.setCell ⟨r, 7, none⟩ (.bool true)).heap.size := by simp; omega
  clear hs hr ho hx b1 r1 o1 x1 f1
  have hc : R.de = false ∨ R.de = true := by cases R.de <;> simp
  go_wp2_with fail
  revert b2 r2 x2 f2 z2
  generalize w1.setCell ⟨r, 7, none⟩ (.bool true) = w2
  intro b2 r2 x2 f2 z2
  rcases hc with hd | hd
  · refine (letGo_no s r { R with ev := true } t w2 r2 (fun q => by simp only [hd] at q; cases q)).mono ?_
    rintro e w3 ⟨rfl, hw3⟩
    subst hw3
    go_wp2
    go_end0
    rw [evR_no hd, show evE R t r = [] from by simp [evE, hd]]
    exact ⟨rfl, S.ex, b2, r2, x2, f2⟩
  · refine (letGo_yes s r B (nowOf S t) { R with ev := true } [] t w2 b2 r2 hne hsB hrB z2 x2 (by simp) hd rfl).mono ?_
    rintro e w3 ⟨rfl, v', g1, g2, g3, g4⟩
    go_wp2
    go_end0
    rw [evR_yes hd, show evE R t r = [(t, r)] from by simp [evE, hd]]
    exact ⟨rfl, v', g1, g2, g3, f2.trans g4 (fun _ _ q => q)⟩

set_option maxRecDepth 100000 in
set_option maxHeartbeats 1000000 in
theorem zzEvery_any (s r m B : Nat) (S : Sum) (R : Rec) (id : ByteArray) (t : Int) (w : World) (hs : Blk w s S.cells 96) (hr : Blk w r R.cells 99) (hne : s ≠ r) (hms : m ≠ s) (hsB : s < B) (hrB : r < B) (hB : B ≤ w.heap.size)
    (hf : S.fresh = .slice none 0 0) (hx : Ex w B S.ex []) (hm : S.mp = .map (some m)) (ho : One w m id r) :
    Calls Try.prog 40 #[.pointer (some ⟨s, 0, none⟩), .string id, .int .i64 t] w fun e w' => e = .returned (.tuple #[]) ∧
      ∃ v', Blk w' s (Sum.cells { nowOf S t with ex := v' }) 96 ∧ Blk w' r (evR R t).cells 99 ∧ Ex w' B v' (evE R t r) ∧ Fr (fun i => i = s ∨ i = r ∨ some i = S.ex.ownBlock) w w' := by
  go_enter Try.func40, Try.ntmps40
  go_wp2_with fail
  refine (every_any s r m B S R id t w hs hr hne hms hsB hrB hB hf hx hm ho).mono ?_
  rintro e w1 ⟨rfl, h⟩
  go_wp2
  go_end0
  exact ⟨rfl, h⟩

end Go.Proofs.Qxb6619458a
