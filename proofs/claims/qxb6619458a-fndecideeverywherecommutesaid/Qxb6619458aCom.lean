import Derived.Test.Qxb6619458aComOK
import Derived.Deep.Cut
import Derived.Deep.CutRange
namespace Go.Proofs.Qxb6619458a
open Go.RowKit
attribute [local go_sem ↓] Go.wp_at_zero Go.wp_at_succ

set_option maxRecDepth 100000 in
set_option maxHeartbeats 1000000 in
theorem bytes34_any (x1 x2 x3 x4 x5 x6 : Int) (cl : Bool) (l l' : Lat) (id : ByteArray) (hid : id.size ≤ 9223372036854775807) (w : World) :
    Calls Try.prog 34 #[.int .i64 x1, .int .i64 x2, .int .i64 x3, .agg l.cells, .string id, .bool cl, .agg l'.cells, .int .i64 x4, .int .i64 x5, .int .i64 x6] w fun e w' => IsBool e True ∧ Below w.heap.size w w' := by
  unfold Lat.cells
  go_enter Try.func34, Try.ntmps34
  go_wp2
  all_goals
    go_ret
    exact ⟨IsBool.mk _ _ (fun _ => trivial), ((Below.refl _ _).alloc (Nat.le_refl _) _).alloc (by simp) _⟩

theorem newDS_three (linger now fm : Int) (l : Lat) (w : World) :
    Calls Try.prog 36 #[.int .i64 linger, .int .i64 now, .int .i64 fm, .agg l.cells] w fun e w' => ∃ s m x, e = .returned (.pointer (some ⟨s, 0, none⟩)) ∧ w.heap.size ≤ m ∧ m < s ∧ Blk w' s (newS linger now fm l x m).cells 96 ∧ Nil w' m ∧ Below w.heap.size w w' := by
  refine (newDS_any linger now fm l w).mono ?_
  rintro e w' ⟨rfl, rfl⟩
  refine ⟨_, w.heap.size + 2, w.heap.size + 1, rfl, by omega, by omega, ?_, ?_, ((((Below.refl _ _).alloc (Nat.le_refl _) _).alloc (by simp) _).alloc (by simp; omega) _).alloc (by simp; omega) _⟩
  · have := Blk.new (((w.alloc (.cells l.cells 66)).alloc (.cells #[] 40)).alloc (.map #[] 0)) (newS linger now fm l (w.heap.size + 1) (w.heap.size + 2)).cells 96
    simpa using this
  · have h : ((w.alloc (.cells l.cells 66)).alloc (.cells #[] 40)).heap.size = w.heap.size + 2 := by simp
    unfold Nil
    rw [Below.heap_alloc _ _ _ (by simp), ← h]
    exact heap_alloc_new _ _

theorem Below.fr {N : Nat} {O : Nat → Prop} {a b c : World} (h : Below N a b) (f : Fr O b c) (hN : N ≤ b.heap.size) (hO : ∀ i, i < N → ¬ O i) : Below N a c :=
  ⟨f.os.trans h.os, f.tape.trans h.tape, f.output.trans h.output, Nat.le_trans h.size f.size, fun i hi => (f.block i (Nat.lt_of_lt_of_le hi hN) (hO i hi)).trans (h.block i hi)⟩
theorem Ex.below {w w' : World} {B : Nat} {v : Value} {E : List (Int × Nat)} (h : Ex w B v E) (hb : Below w.heap.size w w') : Ex w' B v E := h.kept (fun k _ hk => hb.block k hk)

theorem Blk.belowN {N : Nat} {w w' : World} {b : Nat} {cs : Array Value} {t : TypeId} (h : Blk w b cs t) (f : Below N w w') (hlt : b < N) : Blk w' b cs t := by
  unfold Blk at h ⊢
  rw [f.block b hlt]; exact h

theorem latCells {w : World} {b : Nat} {l : Lat} (h : Blk w b l.cells 66) : w.cell? ⟨b, 0, none⟩ = some (.int .i64 l.l0) ∧ w.cell? ⟨b, 1, none⟩ = some (.int .i64 l.l1) ∧ w.cell? ⟨b, 2, none⟩ = some (.bool l.la) ∧
    w.cell? ⟨b, 3, none⟩ = some (.int .i64 l.f0) ∧ w.cell? ⟨b, 4, none⟩ = some (.int .i64 l.f1) ∧ w.cell? ⟨b, 5, none⟩ = some (.bool l.fa) :=
  ⟨h.cell rfl, h.cell rfl, h.cell rfl, h.cell rfl, h.cell rfl, h.cell rfl⟩
theorem drCells {w : World} {b : Nat} {cl : Bool} {l : Lat} {hd : Int} (h : Blk w b (DR.cells ⟨cl, false, false, l, hd⟩) 70) : w.cell? ⟨b, 0, none⟩ = some (.bool cl) ∧ w.cell? ⟨b, 1, none⟩ = some (.bool false) ∧ w.cell? ⟨b, 2, none⟩ = some (.bool false) ∧
    w.cell? ⟨b, 3, none⟩ = some (.int .i64 l.l0) ∧ w.cell? ⟨b, 4, none⟩ = some (.int .i64 l.l1) ∧ w.cell? ⟨b, 5, none⟩ = some (.bool l.la) ∧
    w.cell? ⟨b, 6, none⟩ = some (.int .i64 l.f0) ∧ w.cell? ⟨b, 7, none⟩ = some (.int .i64 l.f1) ∧ w.cell? ⟨b, 8, none⟩ = some (.bool l.fa) ∧ w.cell? ⟨b, 9, none⟩ = some (.int .i64 hd) :=
  ⟨h.cell rfl, h.cell rfl, h.cell rfl, h.cell rfl, h.cell rfl, h.cell rfl, h.cell rfl, h.cell rfl, h.cell rfl, h.cell rfl⟩

set_option maxRecDepth 100000 in
set_option maxHeartbeats 4000000 in
theorem commute_any (linger now fm heard a b : Int) (free lat : Lat) (cl : Bool) (id : ByteArray) (hid : id.size ≤ 9223372036854775807) (w : World) :
    Calls Try.prog 6 #[.int .i64 linger, .int .i64 now, .int .i64 fm, .agg free.cells, .string id, .bool cl, .agg lat.cells, .int .i64 heard, .int .i64 a, .int .i64 b] w fun e w' => e = .returned (.bool true) ∧ Below w.heap.size w w' := by
  obtain ⟨wz, hwz⟩ : ∃ wz, wz = (w.alloc (.cells free.cells 66)).alloc (.cells lat.cells 66) := ⟨_, rfl⟩
  have hB : Below w.heap.size w wz := by rw [hwz]; exact ((Below.refl _ _).alloc (Nat.le_refl _) _).alloc (by simp) _
  have hF : Blk wz w.heap.size free.cells 66 := by rw [hwz]; exact (Blk.new _ _ _).alloc _
  have hL : Blk wz (w.heap.size + 1) lat.cells 66 := by
    have := Blk.new (w.alloc (.cells free.cells 66)) lat.cells 66
    rw [hwz]; simpa using this
  unfold Lat.cells at hwz ⊢
  go_enter Try.func6, Try.ntmps6
  go_wp2_with fail
  rw [← hwz]
  clear hwz
  refine (bytes34_any linger now fm heard a b cl free lat id hid wz).mono ?_
  rintro e w0 ⟨⟨t, rfl, _⟩, hb0⟩
  have H0 : Below w.heap.size w w0 := chain hB hb0
  cases t
  · go_wp2
    go_ret
    exact ⟨rfl, H0⟩
  by_cases hn : (id.size : Int) ≤ 1048576
  case neg =>
    go_wp2
    go_ret
    exact ⟨rfl, H0⟩
  have hF0 := hF.below hb0
  have hL0 := hL.below hb0
  have lF := hF.lt
  have lL := hL.lt
  have zb0 := hb0.size
  clear hF hL hB hb0
  obtain ⟨p0, p1, p2, p3, p4, p5⟩ := latCells hF0
  obtain ⟨l0, l1, l2, l3, l4, l5⟩ := latCells hL0
  have n1 : ¬ w.heap.size = w0.heap.size := by omega
  have n2 : ¬ w.heap.size + 1 = w0.heap.size := by omega
  have n3 : w.heap.size < w0.heap.size := by omega
  have n4 : w.heap.size + 1 < w0.heap.size := by omega
  have G0 : Blk (w0.alloc (.cells free.cells 66)) w0.heap.size free.cells 66 := Blk.new _ _ _
  have G1 : Below w0.heap.size w0 (w0.alloc (.cells free.cells 66)) := (Below.refl _ _).alloc (Nat.le_refl _) _
  clear G0 G1
  obtain ⟨wm, HM⟩ : ∃ wm, Hid (wm = if cl then fm else wrap64 (fm + 1)) := ⟨_, rfl⟩
  obtain ⟨wf, HF⟩ : ∃ wf, Hid (wf = if cl then free else hullL free lat) := ⟨_, rfl⟩
  obtain ⟨nw, HN⟩ : ∃ nw, Hid (nw = if now < b then b else now) := ⟨_, rfl⟩
  go_upto_if 47 with fail
  go_cut [21] from 48 to 52 (fun m wx => m = .int .i64 wm ∧ Blk wx w0.heap.size wf.cells 66 ∧ Below w0.heap.size w0 wx)
  case first =>
    have G0 : Blk (w0.alloc (.cells free.cells 66)) w0.heap.size free.cells 66 := Blk.new _ _ _
    have G1 : Below w0.heap.size w0 (w0.alloc (.cells free.cells 66)) := (Below.refl _ _).alloc (Nat.le_refl _) _
    cases cl
    · go_wp2_with fail
      refine (hullL_any free lat _).mono ?_
      rintro e w2 ⟨rfl, hb2⟩
      have hW2 := G0.below hb2
      have P6 := put6 (hullL free lat) hW2
      have b2 : Below w0.heap.size w0 w2 := G1.trans (hb2.mono (by simp))
      obtain ⟨q0, q1, q2, q3, q4, q5⟩ := latCells hW2
      have gf := hW2.frozen
      clear p0 p1 p2 p3 p4 p5 l0 l1 l2 l3 l4 l5 hb2 G0 G1 hF0 hL0
      unfold Lat.cells
      go_wp2_with fail
      go_meet
      rw [HM.out, HF.out]; exact ⟨rfl, P6.1, Fr.toBelow b2 P6.2 (fun i hi => by omega)⟩
    · go_wp2_with fail
      go_meet
      rw [HM.out, HF.out]; exact ⟨rfl, G0, G1⟩
  case rest =>
    obtain ⟨rfl, hW1, hb1⟩ := hcut
    have hF1 := hF0.below hb1
    have hL1 := hL0.below hb1
    have H1 := chain H0 hb1
    have z1 := hb1.size
    have lW := hW1.lt
    clear p0 p1 p2 p3 p4 p5 l0 l1 l2 l3 l4 l5 hF0 hL0 H0 hb1
    obtain ⟨w1, rfl⟩ : ∃ w1 : World, w1 = wc := ⟨_, rfl⟩
    go_upto_if 56 with fail
    go_cut [23] from 57 to 57 (fun x wx => x = .int .i64 nw ∧ wx = w1)
    case first =>
      by_cases hnb : now < b
      · go_wp2_with fail
        go_meet
        exact ⟨by rw [HN.out, if_pos hnb], rfl⟩
      · go_wp2_with fail
        go_meet
        exact ⟨by rw [HN.out, if_neg (by omega)], rfl⟩
    case rest =>
      obtain ⟨rfl, hwc⟩ := hcut
      subst hwc
      obtain ⟨p0, p1, p2, p3, p4, p5⟩ := latCells hF1
      obtain ⟨l0, l1, l2, l3, l4, l5⟩ := latCells hL1
      have n5 : w.heap.size < wc.heap.size := by omega
      have n6 : w.heap.size + 1 < wc.heap.size := by omega
      have n7 : ¬ w.heap.size = wc.heap.size := by omega
      go_wp2_with fail
      refine (newDS_three linger now fm free (wc.alloc (.cells (DR.cells ⟨cl, false, false, lat, heard⟩) 70))).mono ?_
      rintro e w4 ⟨sA, mA, xA, rfl, gA, hA, hsA, hnA, b4⟩
      have hD4 := (Blk.new wc (DR.cells ⟨cl, false, false, lat, heard⟩) 70).below b4
      have hF4 := (hF1.alloc _).below b4
      have hW4 := (hW1.alloc _).below b4
      have gA1 : wc.heap.size + 1 ≤ mA := by simpa using gA
      have H4 : Below w.heap.size w w4 := chain H1 (((Below.refl wc.heap.size wc).alloc (Nat.le_refl _) _).trans (b4.mono (by simp)))
      clear p0 p1 p2 p3 p4 p5 l0 l1 l2 l3 l4 l5 hF1 hL1 hW1 b4 gA H1
      obtain ⟨d0, d1, d2, d3, d4, d5, d6, d7, d8, d9⟩ := drCells hD4
      go_wp2_with fail
      refine (newD_two id ⟨cl, false, false, lat, heard⟩ w4).mono ?_
      rintro e w5 ⟨rA, rfl, gr, hrA, b5⟩
      clear d0 d1 d2 d3 d4 d5 d6 d7 d8 d9
      have ls := hsA.lt
      have z5 := b5.size
      have lr := hrA.lt
      go_wp2_with fail
      refine (setRec_any sA rA mA (newS linger now fm free xA mA) id w5 (hsA.below b5) rfl (hnA.below b5)).mono ?_
      rintro e w6 ⟨rfl, hoA, f6⟩
      have hs6 := (hsA.below b5).fr f6 (by omega)
      have hr6 := hrA.fr f6 (by omega)
      have z6 := f6.size
      have B6 : Below mA w4 w6 := Below.fr (b5.mono (by omega)) f6 (by omega) (fun i hi => by omega)
      go_wp2_with fail
      refine (zzDecide_any sA rA w6.heap.size (newS linger now fm free xA mA) (DR.toRec id ⟨cl, false, false, lat, heard⟩) [] a w6 hs6 hr6 (by omega) (by omega) (by omega) (Nat.le_refl _) (World.ownsRow_nil _ _ _ _) (by simp)).mono ?_
      rintro e w7 ⟨rfl, v7, hs7, hr7, hx7, f7⟩
      have z7 := f7.size
      have B7 : Below mA w4 w7 := Below.fr B6 f7 (by omega) (fun i hi => by rintro (q | q | q); omega; omega; cases q)
      have ho7 := hoA.fr f7 (by rintro (q | q | q); omega; omega; cases q)
      go_wp2_with fail
      refine (zzEvery_any sA rA mA w6.heap.size (dS (newS linger now fm free xA mA) (DR.toRec id ⟨cl, false, false, lat, heard⟩) v7) (dR (DR.toRec id ⟨cl, false, false, lat, heard⟩) a) id b w7 hs7 hr7 (by omega) (by omega) (by omega) (by omega) (by omega) rfl hx7 rfl ho7).mono ?_
      rintro e w8 ⟨rfl, v8, hs8, hr8, hx8, f8⟩
      have z8 := f8.size
      have q8 : ∀ i, some i = v7.ownBlock → w6.heap.size ≤ i := fun i hi => (hx7.lt i hi.symm).1
      have hv7 : (dS (newS linger now fm free xA mA) (DR.toRec id ⟨cl, false, false, lat, heard⟩) v7).ex = v7 := rfl
      have B8 : Below mA w4 w8 := Below.fr B7 f8 (by omega) (fun i hi => by rintro (q | q | q); omega; omega; have := q8 i q; omega)
      have ho8 := ho7.fr f8 (by rintro (q | q | q); omega; omega; have := q8 mA q; omega)
      have lA0 := hoA.lt
      have hF8 := hF4.belowN B8 (by omega)
      have hW8 := hW4.belowN B8 (by omega)
      have hD8 := hD4.belowN B8 (by omega)
      have H8 : Below w.heap.size w w8 := H4.trans (B8.mono (by omega))
      have hsA8 : Blk w8 sA (Sum.cells { newS linger now fm free xA mA with fm := wm, free := wf, now := nw, ex := v8 }) 96 := by rw [HM.out, HF.out, HN.out]; exact hs8
      have hrA8 : Blk w8 rA (Rec.cells { (DR.toRec id ⟨cl, true, true, lat, b⟩) with de := true, ev := true, lat := Lat.zero }) 99 := hr8
      have hxA8 : Ex w8 w6.heap.size v8 [(b, rA)] := hx8
      clear hs8 hr8 hx8 f8 f7 f6 b5 hs7 hr7 hx7 hs6 hr6 B6 B7 B8 hF4 hW4 hD4 hsA hnA hrA hoA ho7 H4 q8 hv7
      obtain ⟨p0, p1, p2, p3, p4, p5⟩ := latCells hF8
      go_wp2_with fail
      refine (newDS_three linger now fm free w8).mono ?_
      rintro e w9 ⟨sB, mB, xB, rfl, gB, hB, hsB, hnB, b9⟩
      have z9 := b9.size
      have hD9 := hD8.below b9
      have ls9 := hsB.lt
      clear p0 p1 p2 p3 p4 p5
      obtain ⟨d0, d1, d2, d3, d4, d5, d6, d7, d8, d9⟩ := drCells hD9
      go_wp2_with fail
      refine (newD_two id ⟨cl, false, false, lat, heard⟩ w9).mono ?_
      rintro e wA ⟨rB, rfl, gr9, hrB, bA⟩
      clear d0 d1 d2 d3 d4 d5 d6 d7 d8 d9 hD9
      have zA := bA.size
      have lrB := hrB.lt
      go_wp2_with fail
      refine (setRec_any sB rB mB (newS linger now fm free xB mB) id wA (hsB.below bA) rfl (hnB.below bA)).mono ?_
      rintro e wB ⟨rfl, hoB, fB⟩
      have hs6 := (hsB.below bA).fr fB (by omega)
      have hr6 := hrB.fr fB (by omega)
      have zB := fB.size
      have B9 : Below w8.heap.size w8 wB := Below.fr (chain b9 bA) fB (by omega) (fun i hi => by omega)
      go_wp2_with fail
      refine (zzEvery_any sB rB mB wB.heap.size (newS linger now fm free xB mB) (DR.toRec id ⟨cl, false, false, lat, heard⟩) id b wB hs6 hr6 (by omega) (by omega) (by omega) (by omega) (Nat.le_refl _) rfl (World.ownsRow_nil _ _ _ _) rfl hoB).mono ?_
      rintro e wC ⟨rfl, vC, hsC, hrC, hxC, fC⟩
      have zC := fC.size
      have BC : Below w8.heap.size w8 wC := Below.fr B9 fC (by omega) (fun i hi => by rintro (q | q | q); omega; omega; cases q)
      have hoC := hoB.fr fC (by rintro (q | q | q); omega; omega; cases q)
      go_wp2_with fail
      refine (zzDecide_any sB rB wB.heap.size { nowOf (newS linger now fm free xB mB) b with ex := vC } (evR (DR.toRec id ⟨cl, false, false, lat, heard⟩) b) [] a wC hsC hrC (by omega) (by omega) (by omega) (by omega) hxC (by simp)).mono ?_
      rintro e wD ⟨rfl, vD, hsD, hrD, hxD, fD⟩
      have zD := fD.size
      have qD : ∀ i, some i = vC.ownBlock → wB.heap.size ≤ i := fun i hi => (hxC.lt i hi.symm).1
      have BD : Below w8.heap.size w8 wD := Below.fr BC fD (by omega) (fun i hi => by rintro (q | q | q); omega; omega; have := qD i q; omega)
      have lB0 := hoB.lt
      have hoD := hoC.fr fD (by rintro (q | q | q); omega; omega; have := qD mB q; omega)
      have hsBD : Blk wD sB (Sum.cells { newS linger now fm free xB mB with fm := wm, free := wf, now := nw, ex := vD }) 96 := by rw [HM.out, HF.out, HN.out]; exact hsD
      have hrBD : Blk wD rB (Rec.cells { (DR.toRec id ⟨cl, true, true, lat, a⟩) with de := true, ev := true, lat := Lat.zero }) 99 := hrD
      have hxBD : Ex wD wB.heap.size vD [(a, rB)] := hxD
      have hW9 := hW8.below BD
      have HD := chain H8 BD
      have hsAD := hsA8.below BD
      have hrAD := hrA8.below BD
      have hxAD := hxA8.below BD
      have hoAD := ho8.below BD
      clear hsD hrD hxD fD fC fB bA b9 hsC hrC hxC hs6 hr6 B9 BC BD hsB hnB hrB hoB hoC H8 qD hsA8 hrA8 hxA8 ho8 hF8 hD8 hW8
      obtain ⟨p0, p1, p2, p3, p4, p5⟩ := latCells hW9
      go_wp2_with fail
      refine (comOK_any sA rA mA w6.heap.size { newS linger now fm free xA mA with fm := wm, free := wf, now := nw, ex := v8 } (DR.toRec id ⟨cl, true, true, lat, b⟩) id wD hsAD hrAD hxAD rfl hoAD).mono ?_
      rintro e wE ⟨rfl, bE⟩
      have hWE := hW9.below bE
      have HE := chain HD bE
      have hsBE := hsBD.below bE
      have hrBE := hrBD.below bE
      have hxBE := hxBD.below bE
      have hoBE := hoD.below bE
      clear p0 p1 p2 p3 p4 p5 hsAD hrAD hxAD hoAD hsBD hrBD hxBD hoD hW9 HD bE
      obtain ⟨p0, p1, p2, p3, p4, p5⟩ := latCells hWE
      go_wp2_with fail
      refine (comOK_any sB rB mB wB.heap.size { newS linger now fm free xB mB with fm := wm, free := wf, now := nw, ex := vD } (DR.toRec id ⟨cl, true, true, lat, a⟩) id wE hsBE hrBE hxBE rfl hoBE).mono ?_
      rintro e wF ⟨rfl, bF⟩
      go_wp2
      go_ret
      exact ⟨rfl, chain HE bF⟩

end Go.Proofs.Qxb6619458a
