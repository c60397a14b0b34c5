import Derived.Test.Qxb6619458aLetGo
namespace Go.Proofs.Qxb6619458a
open Go.RowKit

def dS (S : Sum) (R : Rec) (v : Value) : Sum := { S with free := if R.cl then S.free else hullL S.free R.lat, fm := if R.cl then S.fm else wrap64 (S.fm + 1), ex := v }
def dR (R : Rec) (t : Int) : Rec := { R with de := true, lat := Lat.zero, h := if R.ev then t else R.h }
def dE (E : List (Int × Nat)) (R : Rec) (t : Int) (r : Nat) : List (Int × Nat) := if R.ev then E ++ [(t, r)] else E

theorem dE_len (E : List (Int × Nat)) (R : Rec) (t : Int) (r : Nat) : (dE E R t r).length ≤ E.length + 1 := by
  unfold dE; split <;> simp

/-- What letGo makes of a decided record. -/
def lgR (R : Rec) (t : Int) : Rec := { R with h := if R.ev then t else R.h }
theorem lgR_no {R : Rec} {t : Int} (h : R.ev = false) : lgR R t = R := by
  obtain ⟨a, b, c, d, e, f, g, i⟩ := R
  simp only at h
  subst h
  rfl
theorem lgR_yes {R : Rec} {t : Int} (h : R.ev = true) : lgR R t = { R with h := t } := by
  obtain ⟨a, b, c, d, e, f, g, i⟩ := R
  simp only at h
  subst h
  rfl

theorem letGo_any (s r B : Nat) (S : Sum) (R : Rec) (E : List (Int × Nat)) (at' : Int) (w : World) (hs : Blk w s S.cells 96) (hr : Blk w r R.cells 99) (hne : s ≠ r) (hsB : s < B) (hrB : r < B) (hB : B ≤ w.heap.size)
    (hex : Ex w B S.ex E) (hE : E.length ≤ 1000000) (hde : R.de = true) :
    Calls Try.prog 65 #[.pointer (some ⟨s, 0, none⟩), .pointer (some ⟨r, 0, none⟩), .int .i64 at'] w fun e w' => e = .returned (.tuple #[]) ∧
      ∃ v', Blk w' s (Sum.cells { S with ex := v' }) 96 ∧ Blk w' r (lgR R at').cells 99 ∧ Ex w' B v' (dE E R at' r) ∧ Fr (fun i => i = s ∨ i = r ∨ some i = S.ex.ownBlock) w w' := by
  have hc : R.ev = false ∨ R.ev = true := by cases R.ev <;> simp
  rcases hc with hev | hev
  · refine (letGo_no s r R at' w hr (fun _ => hev)).mono ?_
    rintro e w' ⟨rfl, rfl⟩
    rw [lgR_no hev, show dE E R at' r = E from by simp [dE, hev]]
    exact ⟨rfl, S.ex, hs, hr, hex, Fr.refl _ _⟩
  · refine (letGo_yes s r B S R E at' w hs hr hne hsB hrB hB hex hE hde hev).mono ?_
    rintro e w' ⟨rfl, v', h1, h2, h3, h4⟩
    rw [lgR_yes hev, show dE E R at' r = E ++ [(at', r)] from by simp [dE, hev]]
    exact ⟨rfl, v', h1, h2, h3, h4⟩

/-- What is known of a summary, a record and the queue, in one. -/
structure Trip (w0 w : World) (s r B : Nat) (S : Sum) (R : Rec) (E : List (Int × Nat)) : Prop where
  hs : Blk w s S.cells 96
  hr : Blk w r R.cells 99
  hx : Ex w B S.ex E
  hF : Fr (fun i => i = s ∨ i = r) w0 w

theorem Trip.setR {w0 w : World} {s r B : Nat} {S : Sum} {R : Rec} {E : List (Int × Nat)} (h : Trip w0 w s r B S R E) (hne : s ≠ r) (hrB : r < B) (j : Nat) (v : Value) (R' : Rec) (e : R.cells.setIfInBounds j v = R'.cells) :
    Trip w0 (w.setCell ⟨r, j, none⟩ v) s r B S R' E :=
  ⟨h.hs.other (a := ⟨r, j, none⟩) hne v, by rw [← e]; exact h.hr.set j v, ownsRow_setCell_below h.hx (a := ⟨r, j, none⟩) hrB v, h.hF.setCell (p := ⟨r, j, none⟩) (.inl (.inr rfl)) v⟩

theorem Trip.setS {w0 w : World} {s r B : Nat} {S : Sum} {R : Rec} {E : List (Int × Nat)} (h : Trip w0 w s r B S R E) (hne : s ≠ r) (hsB : s < B) (j : Nat) (v : Value) (S' : Sum) (e : S.cells.setIfInBounds j v = S'.cells) (ex : S'.ex = S.ex) :
    Trip w0 (w.setCell ⟨s, j, none⟩ v) s r B S' R E :=
  ⟨by rw [← e]; exact h.hs.set j v, h.hr.other (a := ⟨s, j, none⟩) (fun q => hne q.symm) v, by rw [ex]; exact ownsRow_setCell_below h.hx (a := ⟨s, j, none⟩) hsB v, h.hF.setCell (p := ⟨s, j, none⟩) (.inl (.inl rfl)) v⟩

/-- The record's latencies cleared, cell by cell. -/
theorem Trip.clr {w0 w : World} {s r B : Nat} {S : Sum} {R : Rec} {E : List (Int × Nat)} (h : Trip w0 w s r B S R E) (hne : s ≠ r) (hrB : r < B) :
    Trip w0 ((((((w.setCell ⟨r, 8, none⟩ (.int .i64 0)).setCell ⟨r, 9, none⟩ (.int .i64 0)).setCell ⟨r, 10, none⟩ (.bool false)).setCell ⟨r, 11, none⟩ (.int .i64 0)).setCell ⟨r, 12, none⟩ (.int .i64 0)).setCell ⟨r, 13, none⟩ (.bool false)) s r B S { R with lat := Lat.zero } E :=
  (((((h.setR hne hrB 8 _ { R with lat := { R.lat with l0 := 0 } } rfl).setR hne hrB 9 _ { R with lat := { R.lat with l0 := 0, l1 := 0 } } rfl).setR hne hrB 10 _ { R with lat := { R.lat with l0 := 0, l1 := 0, la := false } } rfl).setR hne hrB 11 _ { R with lat := { R.lat with l0 := 0, l1 := 0, la := false, f0 := 0 } } rfl).setR hne hrB 12 _ { R with lat := { R.lat with l0 := 0, l1 := 0, la := false, f0 := 0, f1 := 0 } } rfl).setR hne hrB 13 _ { R with lat := Lat.zero } rfl

set_option maxRecDepth 100000 in
set_option maxHeartbeats 2000000 in
theorem decide_cl (s r B : Nat) (S : Sum) (R : Rec) (E : List (Int × Nat)) (at' : Int) (w : World) (hs : Blk w s S.cells 96) (hr : Blk w r R.cells 99) (hne : s ≠ r) (hsB : s < B) (hrB : r < B) (hB : B ≤ w.heap.size)
    (hex : Ex w B S.ex E) (hE : E.length ≤ 1000000) (hcl : R.cl = true) :
    Calls Try.prog 55 #[.pointer (some ⟨s, 0, none⟩), .pointer (some ⟨r, 0, none⟩), .int .i64 at'] w fun e w' => e = .returned (.tuple #[]) ∧
      ∃ v', Blk w' s (Sum.cells (dS S R v')) 96 ∧ Blk w' r (Rec.cells (dR R at')) 99 ∧ Ex w' B v' (dE E R at' r) ∧ Fr (fun i => i = s ∨ i = r ∨ some i = S.ex.ownBlock) w w' := by
  have c5 : w.cell? ⟨r, 5, none⟩ = some (.bool true) := by rw [← hcl]; exact hr.cell rfl
  have c6 : w.cell? ⟨r, 6, none⟩ = some (.bool R.de) := hr.cell rfl
  have c8 : w.cell? ⟨r, 8, none⟩ = some (.int .i64 R.lat.l0) := hr.cell rfl
  have c9 : w.cell? ⟨r, 9, none⟩ = some (.int .i64 R.lat.l1) := hr.cell rfl
  have c10 : w.cell? ⟨r, 10, none⟩ = some (.bool R.lat.la) := hr.cell rfl
  have c11 : w.cell? ⟨r, 11, none⟩ = some (.int .i64 R.lat.f0) := hr.cell rfl
  have c12 : w.cell? ⟨r, 12, none⟩ = some (.int .i64 R.lat.f1) := hr.cell rfl
  have c13 : w.cell? ⟨r, 13, none⟩ = some (.bool R.lat.fa) := hr.cell rfl
  have hf : ∀ j, w.frozen? ⟨r, j, none⟩ = false := hr.frozen
  have HC : Hid (R.cl = true) := hcl
  clear hcl
  go_enter Try.func55, Try.ntmps55
  have T0 : Trip w w s r B S R E := ⟨hs, hr, hex, Fr.refl _ _⟩
  have T1 := (T0.setR hne hrB 6 (.bool true) { R with de := true } rfl).clr hne hrB
  have z1 := T1.hF.size
  go_wp2_with fail
  refine (letGo_any s r B S { R with de := true, lat := Lat.zero } E at' _ T1.hs T1.hr hne hsB hrB (by omega) T1.hx hE rfl).mono ?_
  rintro e w2 ⟨rfl, v', b1, b2, b3, b4⟩
  go_wp2
  go_end0
  refine ⟨rfl, v', ?_, b2, b3, (T1.hF.mono (fun _ _ q => q.elim .inl (fun h => .inr (.inl h)))).trans b4 (fun _ _ q => q)⟩
  have : dS S R v' = { S with ex := v' } := by simp [dS, HC.out]
  rw [this]; exact b1

set_option maxRecDepth 100000 in
set_option maxHeartbeats 2000000 in
theorem decide_fr (s r B : Nat) (S : Sum) (R : Rec) (E : List (Int × Nat)) (at' : Int) (w : World) (hs : Blk w s S.cells 96) (hr : Blk w r R.cells 99) (hne : s ≠ r) (hsB : s < B) (hrB : r < B) (hB : B ≤ w.heap.size)
    (hex : Ex w B S.ex E) (hE : E.length ≤ 1000000) (hcl : R.cl = false) :
    Calls Try.prog 55 #[.pointer (some ⟨s, 0, none⟩), .pointer (some ⟨r, 0, none⟩), .int .i64 at'] w fun e w' => e = .returned (.tuple #[]) ∧
      ∃ v', Blk w' s (Sum.cells (dS S R v')) 96 ∧ Blk w' r (Rec.cells (dR R at')) 99 ∧ Ex w' B v' (dE E R at' r) ∧ Fr (fun i => i = s ∨ i = r ∨ some i = S.ex.ownBlock) w w' := by
  have c5 : w.cell? ⟨r, 5, none⟩ = some (.bool false) := by rw [← hcl]; exact hr.cell rfl
  have c6 : w.cell? ⟨r, 6, none⟩ = some (.bool R.de) := hr.cell rfl
  have c8 : w.cell? ⟨r, 8, none⟩ = some (.int .i64 R.lat.l0) := hr.cell rfl
  have c9 : w.cell? ⟨r, 9, none⟩ = some (.int .i64 R.lat.l1) := hr.cell rfl
  have c10 : w.cell? ⟨r, 10, none⟩ = some (.bool R.lat.la) := hr.cell rfl
  have c11 : w.cell? ⟨r, 11, none⟩ = some (.int .i64 R.lat.f0) := hr.cell rfl
  have c12 : w.cell? ⟨r, 12, none⟩ = some (.int .i64 R.lat.f1) := hr.cell rfl
  have c13 : w.cell? ⟨r, 13, none⟩ = some (.bool R.lat.fa) := hr.cell rfl
  have d15 : w.cell? ⟨s, 15, none⟩ = some (.int .i64 S.fm) := hs.cell rfl
  have e15 := hs.frozen 15
  have hf : ∀ j, w.frozen? ⟨r, j, none⟩ = false := hr.frozen
  have hne' : ¬ r = s := fun q => hne q.symm
  have HC : Hid (R.cl = false) := hcl
  clear hcl
  have T0 : Trip w w s r B S R E := ⟨hs, hr, hex, Fr.refl _ _⟩
  have T1 := (T0.setR hne hrB 6 (.bool true) { R with de := true } rfl).setS hne hsB 15 (.int .i64 (wrap64 (S.fm + 1))) { S with fm := wrap64 (S.fm + 1) } rfl rfl
  go_enter Try.func55, Try.ntmps55
  go_wp2
  go_region_with (go_at_call 64; refine (lmerge_any s 9 (Sum.cells { S with fm := wrap64 (S.fm + 1) }) 96 S.free R.lat _ (by exact T1.hs.drew) rfl rfl rfl rfl rfl rfl).mono ?_; rintro e w1 ⟨rfl, hb1, hf1⟩)
  have T2 : Trip w w1 s r B { S with fm := wrap64 (S.fm + 1), free := hullL S.free R.lat } { R with de := true } E :=
    ⟨hb1, T1.hr.drew.fr hf1 hne', Ex.kept T1.hx (fun k hk hk2 => hf1.block k hk2 (by omega)), T1.hF.drew.trans hf1 (fun _ _ q => .inl q)⟩
  clear T1 T0 hb1 hf1 c5 c6 c8 c9 c10 c11 c12 c13 d15 e15 hf hs hr hex
  have hr := T2.hr
  have c8 : w1.cell? ⟨r, 8, none⟩ = some (.int .i64 R.lat.l0) := hr.cell rfl
  have c9 : w1.cell? ⟨r, 9, none⟩ = some (.int .i64 R.lat.l1) := hr.cell rfl
  have c10 : w1.cell? ⟨r, 10, none⟩ = some (.bool R.lat.la) := hr.cell rfl
  have c11 : w1.cell? ⟨r, 11, none⟩ = some (.int .i64 R.lat.f0) := hr.cell rfl
  have c12 : w1.cell? ⟨r, 12, none⟩ = some (.int .i64 R.lat.f1) := hr.cell rfl
  have c13 : w1.cell? ⟨r, 13, none⟩ = some (.bool R.lat.fa) := hr.cell rfl
  have hf : ∀ j, w1.frozen? ⟨r, j, none⟩ = false := hr.frozen
  have T3 := T2.clr hne hrB
  have z3 := T3.hF.size
  go_wp2_with fail
  refine (letGo_any s r B { S with fm := wrap64 (S.fm + 1), free := hullL S.free R.lat } { R with de := true, lat := Lat.zero } E at' _ T3.hs T3.hr hne hsB hrB (by omega) T3.hx hE rfl).mono ?_
  rintro e w2 ⟨rfl, v', b1, b2, b3, b4⟩
  go_wp2
  go_end0
  refine ⟨rfl, v', ?_, b2, b3, (T3.hF.mono (fun _ _ q => q.elim .inl (fun h => .inr (.inl h)))).trans b4 (fun _ _ q => q)⟩
  have : dS S R v' = { S with fm := wrap64 (S.fm + 1), free := hullL S.free R.lat, ex := v' } := by simp [dS, HC.out]
  rw [this]; exact b1

theorem decide_any (s r B : Nat) (S : Sum) (R : Rec) (E : List (Int × Nat)) (at' : Int) (w : World) (hs : Blk w s S.cells 96) (hr : Blk w r R.cells 99) (hne : s ≠ r) (hsB : s < B) (hrB : r < B) (hB : B ≤ w.heap.size)
    (hex : Ex w B S.ex E) (hE : E.length ≤ 1000000) :
    Calls Try.prog 55 #[.pointer (some ⟨s, 0, none⟩), .pointer (some ⟨r, 0, none⟩), .int .i64 at'] w fun e w' => e = .returned (.tuple #[]) ∧
      ∃ v', Blk w' s (Sum.cells (dS S R v')) 96 ∧ Blk w' r (Rec.cells (dR R at')) 99 ∧ Ex w' B v' (dE E R at' r) ∧ Fr (fun i => i = s ∨ i = r ∨ some i = S.ex.ownBlock) w w' := by
  have hc : R.cl = false ∨ R.cl = true := by cases R.cl <;> simp
  rcases hc with hc | hc
  · exact decide_fr s r B S R E at' w hs hr hne hsB hrB hB hex hE hc
  · exact decide_cl s r B S R E at' w hs hr hne hsB hrB hB hex hE hc

set_option maxRecDepth 100000 in
theorem zzDecide_any (s r B : Nat) (S : Sum) (R : Rec) (E : List (Int × Nat)) (at' : Int) (w : World) (hs : Blk w s S.cells 96) (hr : Blk w r R.cells 99) (hne : s ≠ r) (hsB : s < B) (hrB : r < B) (hB : B ≤ w.heap.size)
    (hex : Ex w B S.ex E) (hE : E.length ≤ 1000000) :
    Calls Try.prog 39 #[.pointer (some ⟨s, 0, none⟩), .pointer (some ⟨r, 0, none⟩), .int .i64 at'] w fun e w' => e = .returned (.tuple #[]) ∧
      ∃ v', Blk w' s (Sum.cells (dS S R v')) 96 ∧ Blk w' r (Rec.cells (dR R at')) 99 ∧ Ex w' B v' (dE E R at' r) ∧ Fr (fun i => i = s ∨ i = r ∨ some i = S.ex.ownBlock) w w' := by
  go_enter Try.func39, Try.ntmps39
  go_wp2_with fail
  refine (decide_any s r B S R E at' w hs hr hne hsB hrB hB hex hE).mono ?_
  rintro e w1 ⟨rfl, hq⟩
  go_wp2
  go_end0
  exact ⟨rfl, hq⟩

end Go.Proofs.Qxb6619458a
