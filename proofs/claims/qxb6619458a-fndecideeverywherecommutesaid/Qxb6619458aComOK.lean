import Derived.Test.Qxb6619458aEvery
namespace Go.Proofs.Qxb6619458a
open Go.RowKit
attribute [local go_sem ↓] Go.wp_at_zero Go.wp_at_succ

set_option maxRecDepth 100000 in
set_option maxHeartbeats 4000000 in
theorem comOK_any (s r m B : Nat) (S : Sum) (R : Rec) (id : ByteArray) (w : World) (hs : Blk w s S.cells 96) (hr : Blk w r (Rec.cells { R with de := true, ev := true, lat := Lat.zero }) 99)
    (hx : Ex w B S.ex [(R.h, r)]) (hm : S.mp = .map (some m)) (ho : One w m id r) :
    Calls Try.prog 41 #[.pointer (some ⟨s, 0, none⟩), .pointer (some ⟨r, 0, none⟩), .string id, .bool R.cl, .int .i64 R.h, .int .i64 S.fm, .agg S.free.cells, .int .i64 S.now] w fun e w' => e = .returned (.bool true) ∧ Below w.heap.size w w' := by
  unfold Lat.cells
  obtain ⟨wz, hwz⟩ : ∃ wz, wz = w.alloc (.cells #[.int .i64 S.free.l0, .int .i64 S.free.l1, .bool S.free.la, .int .i64 S.free.f0, .int .i64 S.free.f1, .bool S.free.fa] 66) := ⟨_, rfl⟩
  have hB : Below w.heap.size w wz := by rw [hwz]; exact (Below.refl _ _).alloc (Nat.le_refl _) _
  have q0 : wz.cell? ⟨w.heap.size, 0, none⟩ = some (.int .i64 S.free.l0) := by rw [hwz]; simp [go_sem]
  have q1 : wz.cell? ⟨w.heap.size, 1, none⟩ = some (.int .i64 S.free.l1) := by rw [hwz]; simp [go_sem]
  have q2 : wz.cell? ⟨w.heap.size, 2, none⟩ = some (.bool S.free.la) := by rw [hwz]; simp [go_sem]
  have q3 : wz.cell? ⟨w.heap.size, 3, none⟩ = some (.int .i64 S.free.f0) := by rw [hwz]; simp [go_sem]
  have q4 : wz.cell? ⟨w.heap.size, 4, none⟩ = some (.int .i64 S.free.f1) := by rw [hwz]; simp [go_sem]
  have q5 : wz.cell? ⟨w.heap.size, 5, none⟩ = some (.bool S.free.fa) := by rw [hwz]; simp [go_sem]
  have hsz := hs.below hB
  have hrz := hr.below hB
  have hoz := ho.below hB
  have hxz : Ex wz B S.ex [(R.h, r)] := hx.kept (fun k _ hk2 => hB.block k hk2)
  have HM : Hid (S.mp = .map (some m)) := hm
  clear hm hs hr ho hx
  have hnq := neq66 S.free
  have hgd := guard66
  go_enter Try.func41, Try.ntmps41
  go_wp2
  rw [← hwz]
  clear hwz
  have zz1 : w.heap.size < wz.heap.size := World.block_lt_of_cell? wz _ q0
  go_region_held3 (fun w' => w'.cell? ⟨w.heap.size, 0, none⟩ = some (.int .i64 S.free.l0) ∧ w'.cell? ⟨w.heap.size, 1, none⟩ = some (.int .i64 S.free.l1) ∧ w'.cell? ⟨w.heap.size, 2, none⟩ = some (.bool S.free.la) ∧ w'.cell? ⟨w.heap.size, 3, none⟩ = some (.int .i64 S.free.f0) ∧ w'.cell? ⟨w.heap.size, 4, none⟩ = some (.int .i64 S.free.f1) ∧ w'.cell? ⟨w.heap.size, 5, none⟩ = some (.bool S.free.fa) ∧ Below wz.heap.size wz w')
    (first | exact ⟨q0, q1, q2, q3, q4, q5, (Below.refl _ _).drew⟩ | exact ⟨(hb9.cell (p := ⟨w.heap.size, 0, none⟩) zz1).trans q0, (hb9.cell (p := ⟨w.heap.size, 1, none⟩) zz1).trans q1, (hb9.cell (p := ⟨w.heap.size, 2, none⟩) zz1).trans q2, (hb9.cell (p := ⟨w.heap.size, 3, none⟩) zz1).trans q3, (hb9.cell (p := ⟨w.heap.size, 4, none⟩) zz1).trans q4, (hb9.cell (p := ⟨w.heap.size, 5, none⟩) zz1).trans q5, (Below.refl _ _).drew.trans hb9⟩)
    (first | (go_at_call 57; refine (freeMsgs_any s S _ ?_).mono ?_; (exact hsz.drew); rintro e w9 ⟨rfl, rfl⟩) | (go_at_call 58; refine (freeOf_any s S _ ?_).mono ?_; (exact hsz.drew); rintro e w9 ⟨rfl, hb9⟩) | (go_at_call 15; refine (now_any s S _ ?_).mono ?_; (exact hsz.drew.below hb9); rintro e w7 ⟨rfl, hw7⟩; subst hw7))
  have hbz := (Below.refl wz.heap.size wz).drew.trans hb9
  have hB1 := hB.trans (hbz.mono (by omega))
  have hs1 := hsz.below hbz
  have hr1 := hrz.below hbz
  have ho1 := hoz.below hbz
  have hx1 : Ex _ B S.ex [(R.h, r)] := hxz.kept (fun k _ hk2 => hbz.block k hk2)
  clear hsz hrz hoz hxz q0 q1 q2 q3 q4 q5 hnq hb9 hbz hB zz1
  rename_i hHeld
  clear hHeld
  have hnz := neq66 ⟨0, 0, false, 0, 0, false⟩
  dsimp only at hnz
  go_wp2_with fail
  refine (decided_any r { R with de := true, ev := true, lat := Lat.zero } _ hr1).mono ?_
  rintro e w8 ⟨rfl, hw8⟩
  subst hw8
  go_wp2_with fail
  refine (everyw_any r { R with de := true, ev := true, lat := Lat.zero } _ hr1).mono ?_
  rintro e w8 ⟨rfl, hw8⟩
  subst hw8
  go_wp2_with fail
  refine (clashes_any r { R with de := true, ev := true, lat := Lat.zero } _ hr1).mono ?_
  rintro e w8 ⟨rfl, hw8⟩
  subst hw8
  go_wp2_with fail
  refine (latOf_any r { R with de := true, ev := true, lat := Lat.zero } _ hr1).mono ?_
  rintro e w2 ⟨rfl, hb2⟩
  have hs2 := hs1.below hb2
  have hr2 := hr1.below hb2
  have ho2 := ho1.below hb2
  have hx2 : Ex _ B S.ex [(R.h, r)] := hx1.kept (fun k _ hk2 => hb2.block k hk2)
  have hB2 := chain hB1 hb2
  clear hs1 hr1 ho1 hx1 hB1
  simp only [Lat.zero]
  go_wp2_with fail
  refine (heard_any r { R with de := true, ev := true, lat := Lat.zero } _ hr2).mono ?_
  rintro e w8 ⟨rfl, hw8⟩
  subst hw8
  clear hnz
  obtain ⟨v, cv, hv⟩ := hx2.form
  have hv : S.ex = .slice v 1 cv := hv
  go_wp2_with fail
  refine (exLen_any s S v 1 cv _ hs2 hv).mono ?_
  rintro e w8 ⟨rfl, hw8⟩
  subst hw8
  clear hv
  go_wp2_with fail
  refine (exAt_any s B S [(R.h, r)] 0 R.h r _ hs2 hx2 rfl).mono ?_
  rintro e w3 ⟨rfl, n3, hw3⟩
  have hb3 : Below w8.heap.size w8 w3 := by rw [hw3]; exact below_drewN (Below.refl _ _) _
  have hs3 := hs2.below hb3
  have ho3 := ho2.below hb3
  have hB3 := chain hB2 hb3
  clear hw3 hs2 hr2 ho2 hx2 hB2
  have hq1 := neq40 r
  have hq2 := eq40 r
  go_wp2_with fail
  refine (recOf_any s r m S id _ hs3 HM.out ho3).mono ?_
  rintro e w4 ⟨rfl, hw4⟩
  subst hw4
  go_wp2
  go_ret
  exact ⟨rfl, hB3⟩

end Go.Proofs.Qxb6619458a
