import Derived.Test.Qxb6619458aRun
import Derived.Deep.DrawnRows
namespace Go.Proofs.Qxb6619458a
open Go.RowKit
attribute [local go_sem ↓] Go.wp_at_zero Go.wp_at_succ

theorem rows_step {w9 w2 : World} {n k : Nat} {t : Int} {f f' : Nat → Bool} {g g' : Nat → Int} (g1 : w2.rowIs w9.heap.size 4 n (fun i => .bool (f i))) (g2 : w2.rowIs (w9.heap.size + 1) 2 n (fun i => .int .i64 (g i)))
    (hnx : Below w9.heap.size w9 w2) (O : Obj) (hf : ∀ i, f' i = if i = k then true else f i) (hg : ∀ i, g' i = if i = k then t else g i) (wx : World)
    (hx : Below (w2.heap.size + 1) (((w2.setCell ⟨w9.heap.size, k, none⟩ (.bool true)).setCell ⟨w9.heap.size + 1, k, none⟩ (.int .i64 t)).alloc O) wx) :
    wx.rowIs w9.heap.size 4 n (fun i => .bool (f' i)) ∧ wx.rowIs (w9.heap.size + 1) 2 n (fun i => .int .i64 (g' i)) ∧ Below w9.heap.size w9 wx := by
  have l1 := g1.lt
  have l2 := g2.lt
  have z := hnx.size
  refine ⟨?_, ?_, ?_⟩
  · have h := (((g1.set k (.bool true)).setOther (a := ⟨w9.heap.size + 1, k, none⟩) (by simp) (.int .i64 t)).alloc O).of_block (hx.block _ (by omega))
    refine h.congr (fun i _ => ?_)
    show (if i = k then Value.bool true else .bool (f i)) = .bool (f' i)
    rw [hf i]; split <;> rfl
  · have h := (((g2.setOther (a := ⟨w9.heap.size, k, none⟩) (by simp) (.bool true)).set k (.int .i64 t)).alloc O).of_block (hx.block _ (by omega))
    refine h.congr (fun i _ => ?_)
    show (if i = k then Value.int .i64 t else .int .i64 (g i)) = .int .i64 (g' i)
    rw [hg i]; split <;> rfl
  · exact (((hnx.setCell (p := ⟨w9.heap.size, k, none⟩) (Nat.le_refl _) _).setCell (p := ⟨w9.heap.size + 1, k, none⟩) (Nat.le_succ _) _).alloc (by simp; omega) _).trans (hx.mono (by omega))

theorem Blk.heap {w w' : World} {b : Nat} {cs : Array Value} {t : TypeId} (h : Blk w b cs t) (e : w'.heap = w.heap) : Blk w' b cs t := by
  unfold Blk at h ⊢
  rw [e]; exact h

/-- The script, turned at c. -/
def stR (sc : Nat → Nat × Int) (c m j : Nat) : Nat × Int := sc (rt c m j)

set_option maxRecDepth 100000 in
set_option maxHeartbeats 40000000 in
theorem runOK_any (s P B n m c c1 c2 : Nat) (aa : Nat → Nat) (a a2 : Option Addr) (S : Sum) (D : Nat → DR) (sc : Nat → Nat × Int) (w : World)
    (hR : Ran w s P B n aa S (RJ D (stR sc c m) m) (EJ aa D (stR sc c m) m))
    (hD : IsD w a n D) (hS : IsS w a2 m (fun j => (((sc j).1 : Int), (sc j).2))) (hsc : ∀ j, j < m → (sc j).1 < n) (hn : n ≤ 65536) (hm : m ≤ 65536) (hc : c ≤ m) :
    Calls Try.prog 45 #[.pointer (some ⟨s, 0, none⟩), .slice (some ⟨P, 0, none⟩) n n, .slice a n c1, .slice a2 m c2, .int .i64 (c : Int), .int .i64 S.fm, .agg S.free.cells] w fun e w' => e = .returned (.bool true) ∧ Below w.heap.size w w' := by
  unfold Lat.cells
  have hH := hsc
  have HSC : Hid (∀ j, j < m → (sc j).1 < n) := hsc
  clear hsc hH
  obtain ⟨wz, hwz⟩ : ∃ wz, wz = w.alloc (.cells #[.int .i64 S.free.l0, .int .i64 S.free.l1, .bool S.free.la, .int .i64 S.free.f0, .int .i64 S.free.f1, .bool S.free.fa] 66) := ⟨_, rfl⟩
  have hB : Below w.heap.size w wz := by rw [hwz]; exact (Below.refl _ _).alloc (Nat.le_refl _) _
  have q0 : wz.cell? ⟨w.heap.size, 0, none⟩ = some (.int .i64 S.free.l0) := by rw [hwz]; simp [go_sem]
  have q1 : wz.cell? ⟨w.heap.size, 1, none⟩ = some (.int .i64 S.free.l1) := by rw [hwz]; simp [go_sem]
  have q2 : wz.cell? ⟨w.heap.size, 2, none⟩ = some (.bool S.free.la) := by rw [hwz]; simp [go_sem]
  have q3 : wz.cell? ⟨w.heap.size, 3, none⟩ = some (.int .i64 S.free.f0) := by rw [hwz]; simp [go_sem]
  have q4 : wz.cell? ⟨w.heap.size, 4, none⟩ = some (.int .i64 S.free.f1) := by rw [hwz]; simp [go_sem]
  have q5 : wz.cell? ⟨w.heap.size, 5, none⟩ = some (.bool S.free.fa) := by rw [hwz]; simp [go_sem]
  have hRz := hR.below hB
  have hDz := hD.below hB
  have hSz := hS.below hB
  have hsz := hRz.hs
  clear hR hD hS
  have hnq := neq66 S.free
  have hgd := guard66
  go_enter Try.func45, Try.ntmps45
  go_wp2
  rw [← hwz]
  clear hwz
  have zz1 : w.heap.size < wz.heap.size := World.block_lt_of_cell? wz _ q0
  go_region_held3 (fun w' => w'.cell? ⟨w.heap.size, 0, none⟩ = some (.int .i64 S.free.l0) ∧ w'.cell? ⟨w.heap.size, 1, none⟩ = some (.int .i64 S.free.l1) ∧ w'.cell? ⟨w.heap.size, 2, none⟩ = some (.bool S.free.la) ∧ w'.cell? ⟨w.heap.size, 3, none⟩ = some (.int .i64 S.free.f0) ∧ w'.cell? ⟨w.heap.size, 4, none⟩ = some (.int .i64 S.free.f1) ∧ w'.cell? ⟨w.heap.size, 5, none⟩ = some (.bool S.free.fa) ∧ Below wz.heap.size wz w')
    (first | exact ⟨q0, q1, q2, q3, q4, q5, (Below.refl _ _).drew⟩ | exact ⟨(hb9.cell (p := ⟨w.heap.size, 0, none⟩) zz1).trans q0, (hb9.cell (p := ⟨w.heap.size, 1, none⟩) zz1).trans q1, (hb9.cell (p := ⟨w.heap.size, 2, none⟩) zz1).trans q2, (hb9.cell (p := ⟨w.heap.size, 3, none⟩) zz1).trans q3, (hb9.cell (p := ⟨w.heap.size, 4, none⟩) zz1).trans q4, (hb9.cell (p := ⟨w.heap.size, 5, none⟩) zz1).trans q5, (Below.refl _ _).drew.trans hb9⟩)
    (first | (go_at_call 57; refine (freeMsgs_any s S _ ?_).mono ?_; (exact hsz.drew); rintro e w9 ⟨rfl, rfl⟩) | (go_at_call 58; refine (freeOf_any s S _ ?_).mono ?_; (exact hsz.drew); rintro e w9 ⟨rfl, hb9⟩))
  have hB1 : Below w.heap.size w w9 := hB.trans (((Below.refl wz.heap.size wz).drew.trans hb9).mono (by omega))
  have hbz : Below wz.heap.size wz w9 := (Below.refl wz.heap.size wz).drew.trans hb9
  have hR1 := hRz.below hbz
  have hD1 := hDz.below hbz
  have hS1 := hSz.below hbz
  clear hRz hDz hSz hsz q0 q1 q2 q3 q4 q5 hnq hgd hb9 hbz hB zz1
  rename_i hHeld
  clear hHeld
  have hs1 := hR1.hs
  obtain ⟨v, cv, hv⟩ := hR1.hx.form
  have HV : Hid (S.ex = .slice v (EJ aa D (stR sc c m) m).length cv) := hv
  clear hv
  have hm1 := run_make_row' (P := Try.prog) 56 4 (.bool false) 1 Try.underlying56 (by kernel_rfl) rfl .i64 .i64 n (by omega) (by omega)
  have hm2 := run_make_row' (P := Try.prog) 49 2 (.int .i64 0) 8 Try.underlying49 (by kernel_rfl) rfl .i64 .i64 n (by omega) (by omega)
  go_wp2_with fail
  refine (exLen_any s S v (EJ aa D (stR sc c m) m).length cv _ ((hs1.alloc _).alloc _) HV.out).mono ?_
  rintro e w1 ⟨rfl, hw1⟩
  have G1 : w1.rowIs w9.heap.size 4 n (fun _ => .bool false) := by rw [hw1]; exact (World.rowIs_made w9 (.bool false) n 4).alloc _
  have G2 : w1.rowIs (w9.heap.size + 1) 2 n (fun _ => .int .i64 0) := by
    have := World.rowIs_made (w9.alloc (.cells (madeCells #[.bool false] n) 4)) (.int .i64 0) n 2
    rw [hw1]; simpa using this
  have hb1 : Below w9.heap.size w9 w1 := by rw [hw1]; exact ((Below.refl _ _).alloc (Nat.le_refl _) _).alloc (by simp) _
  clear hw1 hm1 hm2
  go_wp2
  go_loopw [18, 19] (fun e i wr => ∃ j : Nat, j ≤ m ∧ i = .int .i64 j ∧ e = .int .i64 ((EJ aa D (stR sc c m) j).length : Int) ∧ wr.rowIs w9.heap.size 4 n (fun k => .bool (seenJ (stR sc c m) j k)) ∧ wr.rowIs (w9.heap.size + 1) 2 n (fun k => .int .i64 (lastJ (stR sc c m) j k)) ∧ Below w9.heap.size w9 wr) (fun _ i _ => m - (intOf i).toNat)
  case atStart => exact ⟨0, Nat.zero_le _, rfl, rfl, G1, G2, hb1⟩
  case round =>
    clear G1 G2 hb1
    obtain ⟨j, hj, rfl, rfl, g1, g2, hnx⟩ := hrel
    by_cases hlt : j < m
    · have hrt := rt_lt c m j hc hlt
      obtain ⟨k, t, hkt⟩ : ∃ k t, sc (rt c m j) = (k, t) := ⟨_, _, rfl⟩
      have hst : stR sc c m j = (k, t) := hkt
      have hkn : k < n := by have := HSC.out _ hrt; rw [hkt] at this; exact this
      have HEA : Hid ((D k).ev = true → (EJ aa D (stR sc c m) m)[(EJ aa D (stR sc c m) j).length]? = some (t, aa k)) := by
        have := EJ_at aa D (stR sc c m) j m hlt
        rw [hst] at this; exact this
      have hEL := EJ_len aa D (stR sc c m) j
      have hEM := EJ_len aa D (stR sc c m) m
      have hES : EJ aa D (stR sc c m) (j + 1) = if (D k).ev then EJ aa D (stR sc c m) j ++ [(t, aa k)] else EJ aa D (stR sc c m) j := by
        rw [EJ, hst]
      have HS1 : Hid (∀ i, seenJ (stR sc c m) (j + 1) i = if i = k then true else seenJ (stR sc c m) j i) := fun i => by rw [seenJ, hst]
      have HL1 : Hid (∀ i, lastJ (stR sc c m) (j + 1) i = if i = k then t else lastJ (stR sc c m) j i) := fun i => by rw [lastJ, hst]
      have HE1 : Hid ((D k).ev = true → (EJ aa D (stR sc c m) (j + 1)).length = (EJ aa D (stR sc c m) j).length + 1) := fun h => by rw [hES, if_pos h, List.length_append]; rfl
      have HE0 : Hid ((D k).ev = false → (EJ aa D (stR sc c m) (j + 1)).length = (EJ aa D (stR sc c m) j).length) := fun h => by rw [hES, if_neg (by simp [h])]
      clear hES
      have zr := hnx.size
      rcases hS1 with h0 | ⟨b2, o2, ha2, hb2, hat2'⟩
      · exfalso; omega
      rcases hD1 with h0 | ⟨b, off, ha, hb, hat'⟩
      · exfalso; omega
      have hat2 := hat2'.eq (hnx.block b2 hb2)
      have hat := hat'.eq (hnx.block b hb)
      have hP := hR1.hp.lt
      have l1 := g1.lt
      have l2 := g2.lt
      subst ha2
      subst ha
      have s0 := hat2.c0 (rt c m j) hrt
      have s1 := hat2.c1 (rt c m j) hrt
      rw [hkt] at s0 s1
      dsimp only at s0 s1
      have d2 := hat.c2 k hkn
      have p1 := (hR1.below hnx).hp.cell hkn
      have HX : Hid (∀ wx, Below w9.heap.size w9 wx → Blk wx s S.cells 96 ∧ Ex wx B S.ex (EJ aa D (stR sc c m) m) ∧ wx.cell? ⟨P, k, none⟩ = some (.pointer (some ⟨aa k, 0, none⟩))) := fun wx hx => ⟨(hR1.below hx).hs, (hR1.below hx).hx, (hR1.below hx).hp.cell hkn⟩
      clear hkt hst hat hat2 hat' hat2'
      go_wp2_with fail
      refine (rot_any j c m wr (by omega) (by omega) (by omega)).mono ?_
      rintro e w2 ⟨rfl, hw2⟩
      subst hw2
      rw [show (if m ≤ c + j then c + j - m else c + j) = rt c m j from rfl]
      generalize rt c m j = r at hrt s0 s1 ⊢
      have k1 := g1.cell hkn
      have f1 := g1.frozen k
      have k2 := g2.cell hkn
      have f2 := g2.frozen k
      have hkI : (0 : Int) ≤ (k : Int) := by omega
      have hkJ : (k : Int) < (n : Int) := by omega
      have hq40 := neq40
      have nb1 : ¬ b = w9.heap.size := by omega
      have nb2 : ¬ b = w9.heap.size + 1 := by omega
      have nb3 : ¬ b = w2.heap.size := by omega
      have np3 : ¬ P = w2.heap.size := by omega
      have lb3 : b < w2.heap.size := by omega
      have lp3 : P < w2.heap.size := by omega
      have np1 : ¬ P = w9.heap.size := by omega
      have np2 : ¬ P = w9.heap.size + 1 := by omega
      clear hR1 hs1
      clear HSC HV
      cases hev : (D k).ev
      · rw [hev] at d2
        have e1 := HE0.out hev
        have HE : Hid ((EJ aa D (stR sc c m) (j + 1)).length = (EJ aa D (stR sc c m) j).length) := e1
        clear e1 hev
        go_wp2
        go_roundw
        case rel =>
          obtain ⟨r1, r2, r3⟩ := rows_step g1 g2 hnx (.cells #[.int .i64 (k : Int), .int .i64 t] 82) HS1.out HL1.out _ (Below.refl _ _)
          exact ⟨j + 1, by omega, by go_num, by rw [HE.out], r1, r2, r3⟩
        case measure => simp [intOf]; omega
      · rw [hev] at d2
        have e1 := HE1.out hev
        have HE : Hid ((EJ aa D (stR sc c m) (j + 1)).length = (EJ aa D (stR sc c m) j).length + 1) := e1
        have hea := HEA.out hev
        have hel : (EJ aa D (stR sc c m) j).length < (EJ aa D (stR sc c m) m).length := (List.getElem?_eq_some_iff.1 hea).1
        have HEB : Hid ((EJ aa D (stR sc c m) m)[(EJ aa D (stR sc c m) j).length]? = some (t, aa k)) := hea
        clear e1 hev hea
        have hbW : Below w9.heap.size w9 (((w2.setCell ⟨w9.heap.size, k, none⟩ (.bool true)).setCell ⟨w9.heap.size + 1, k, none⟩ (.int .i64 t)).alloc (.cells #[.int .i64 (k : Int), .int .i64 t] 82)) :=
          (rows_step g1 g2 hnx (.cells #[.int .i64 (k : Int), .int .i64 t] 82) HS1.out HL1.out _ (Below.refl _ _)).2.2
        have HW : Hid (Below w9.heap.size w9 (((w2.setCell ⟨w9.heap.size, k, none⟩ (.bool true)).setCell ⟨w9.heap.size + 1, k, none⟩ (.int .i64 t)).alloc (.cells #[.int .i64 (k : Int), .int .i64 t] 82))) := hbW
        clear hbW
        go_wp2_with fail
        refine (exAt_any s B S (EJ aa D (stR sc c m) m) (EJ aa D (stR sc c m) j).length t (aa k) _ (HX.out _ HW.out).1 (HX.out _ HW.out).2.1 HEB.out).mono ?_
        rintro e w3 ⟨rfl, nq, hw3⟩
        subst hw3
        go_wp2
        go_roundw
        case rel =>
          obtain ⟨r1, r2, r3⟩ := rows_step g1 g2 hnx (.cells #[.int .i64 (k : Int), .int .i64 t] 82) HS1.out HL1.out _ (below_drewN (Below.refl _ _) nq)
          exact ⟨j + 1, by omega, by go_num, by rw [HE.out]; go_num, r1, r2, r3⟩
        case measure => simp [intOf]; omega
    · have ejm : j = m := by omega
      subst ejm
      obtain ⟨wo, rfl⟩ : ∃ wo : World, wo = wr := ⟨_, rfl⟩
      go_wp2
      go_loopw [23] (fun i wx => ∃ k : Nat, k ≤ n ∧ i = .int .i64 k ∧ Below wo.heap.size wo wx) (fun i _ => n - (intOf i).toNat)
      case atStart => exact ⟨0, Nat.zero_le _, rfl, Below.refl _ _⟩
      case round =>
        obtain ⟨k, hk, rfl, hny⟩ := hrel
        by_cases hlt2 : k < n
        · have hbk := hnx.trans (hny.mono hnx.size)
          have l1 := g1.lt
          have l2 := g2.lt
          have y1 := (g1.of_block (hny.block _ l1)).cell hlt2
          have y2 := (g2.of_block (hny.block _ l2)).cell hlt2
          have p1 := (hR1.below hbk).hp.cell hlt2
          have hrk := (hR1.below hbk).hr k hlt2
          have zr := hbk.size
          have zy := hny.size
          rcases hD1 with h0 | ⟨b, off, ha, hb, hat'⟩
          · exfalso; omega
          have hat := hat'.eq (hbk.block b hb)
          have t0 := hat.c0 k hlt2
          have t1 := hat.c1 k hlt2
          have t2 := hat.c2 k hlt2
          have t3 := hat.c3 k hlt2
          have t4 := hat.c4 k hlt2
          have t5 := hat.c5 k hlt2
          have t6 := hat.c6 k hlt2
          have t7 := hat.c7 k hlt2
          have t8 := hat.c8 k hlt2
          have t9 := hat.c9 k hlt2
          subst ha
          unfold RJ at hrk
          rw [show Lat.zero = ⟨0, 0, false, 0, 0, false⟩ from rfl] at hrk
          generalize D k = d at t0 t1 t2 t3 t4 t5 t6 t7 t8 t9 hrk
          generalize seenJ (stR sc c j) j k = sn at y1 hrk
          generalize lastJ (stR sc c j) j k = la at y2 hrk
          obtain ⟨cl, de, ev, lat, h⟩ := d
          dsimp only at t0 t1 t2 t3 t4 t5 t6 t7 t8 t9 hrk y1 y2
          have lak := hrk.lt
          have hP := hR1.hp.lt
          have np3 : ¬ P = wr.heap.size := by omega
          have lp3 : P < wr.heap.size := by omega
          have lg1 : w9.heap.size < wr.heap.size := by omega
          have lg2 : w9.heap.size + 1 < wr.heap.size := by omega
          have ng1 : ¬ w9.heap.size = wr.heap.size := by omega
          have ng2 : ¬ w9.heap.size + 1 = wr.heap.size := by omega
          have hkI : (0 : Int) ≤ (k : Int) := by omega
          have hkJ : (k : Int) < (n : Int) := by omega
          have hq66 := neq66
          have hq0 := neq66 ⟨0, 0, false, 0, 0, false⟩
          have hgd := guard66
          clear hat hat' hR1 hs1 HSC HV hS1 g1 g2
          cases sn
          · cases de
            · cases ev
              · have hrk : Blk wr (aa k) (Rec.cells ⟨ByteArray.empty, .slice none 0 0, .slice none 0 0, cl, false, false, lat, h⟩) 99 := hrk
                go_wp2
                go_quiet (first | (go_at_call 21; exact Calls.quiet_of_same (clashes_any (aa k) ⟨ByteArray.empty, .slice none 0 0, .slice none 0 0, cl, false, false, lat, h⟩ _ (hrk.alloc _))) | (go_at_call 60; exact Calls.quiet_of_same (everyw_any (aa k) ⟨ByteArray.empty, .slice none 0 0, .slice none 0 0, cl, false, false, lat, h⟩ _ (hrk.alloc _))))
                generalize hwq : World.drewN (wr.alloc (Obj.cells #[Value.bool cl, .bool false, .bool false, .int .i64 lat.l0, .int .i64 lat.l1, .bool lat.la, .int .i64 lat.f0, .int .i64 lat.f1, .bool lat.fa, .int .i64 h] 70)) nq = wq
                have hbq : Below wr.heap.size wr wq := by rw [← hwq]; exact below_drewN ((Below.refl _ _).alloc (Nat.le_refl _) _) nq
                have z0 : wq.cell? ⟨wr.heap.size, 0, none⟩ = some (.bool cl) := by rw [← hwq]; simp [go_sem]
                have z1 : wq.cell? ⟨wr.heap.size, 1, none⟩ = some (.bool false) := by rw [← hwq]; simp [go_sem]
                have z2 : wq.cell? ⟨wr.heap.size, 2, none⟩ = some (.bool false) := by rw [← hwq]; simp [go_sem]
                have z3 : wq.cell? ⟨wr.heap.size, 3, none⟩ = some (.int .i64 lat.l0) := by rw [← hwq]; simp [go_sem]
                have z4 : wq.cell? ⟨wr.heap.size, 4, none⟩ = some (.int .i64 lat.l1) := by rw [← hwq]; simp [go_sem]
                have z5 : wq.cell? ⟨wr.heap.size, 5, none⟩ = some (.bool lat.la) := by rw [← hwq]; simp [go_sem]
                have z6 : wq.cell? ⟨wr.heap.size, 6, none⟩ = some (.int .i64 lat.f0) := by rw [← hwq]; simp [go_sem]
                have z7 : wq.cell? ⟨wr.heap.size, 7, none⟩ = some (.int .i64 lat.f1) := by rw [← hwq]; simp [go_sem]
                have z8 : wq.cell? ⟨wr.heap.size, 8, none⟩ = some (.bool lat.fa) := by rw [← hwq]; simp [go_sem]
                have z9 : wq.cell? ⟨wr.heap.size, 9, none⟩ = some (.int .i64 h) := by rw [← hwq]; simp [go_sem]
                clear hwq
                have hrq := hrk.below hbq
                have y1q := (hbq.cell (p := ⟨w9.heap.size, k, none⟩) lg1).trans y1
                have y2q := (hbq.cell (p := ⟨w9.heap.size + 1, k, none⟩) lg2).trans y2
                have lz := World.block_lt_of_cell? wq _ z0
                have nz : ¬ wr.heap.size = wq.heap.size := by dsimp only at lz; omega
                clear y1 y2 p1 t0 t1 t2 t3 t4 t5 t6 t7 t8 t9
                go_wp2
                go_quiet ((go_at_call 59; exact Calls.quiet_of_same (decided_any (aa k) ⟨ByteArray.empty, .slice none 0 0, .slice none 0 0, cl, false, false, lat, h⟩ _ hrq)))
                generalize hwp : World.drewN wq nq = wp
                have hbp : Below wr.heap.size wr wp := by rw [← hwp]; exact below_drewN hbq nq
                have x0 : wp.cell? ⟨wr.heap.size, 0, none⟩ = some (.bool cl) := by rw [← hwp]; exact z0
                have x1 : wp.cell? ⟨wr.heap.size, 1, none⟩ = some (.bool false) := by rw [← hwp]; exact z1
                have x2 : wp.cell? ⟨wr.heap.size, 2, none⟩ = some (.bool false) := by rw [← hwp]; exact z2
                have x3 : wp.cell? ⟨wr.heap.size, 3, none⟩ = some (.int .i64 lat.l0) := by rw [← hwp]; exact z3
                have x4 : wp.cell? ⟨wr.heap.size, 4, none⟩ = some (.int .i64 lat.l1) := by rw [← hwp]; exact z4
                have x5 : wp.cell? ⟨wr.heap.size, 5, none⟩ = some (.bool lat.la) := by rw [← hwp]; exact z5
                have x6 : wp.cell? ⟨wr.heap.size, 6, none⟩ = some (.int .i64 lat.f0) := by rw [← hwp]; exact z6
                have x7 : wp.cell? ⟨wr.heap.size, 7, none⟩ = some (.int .i64 lat.f1) := by rw [← hwp]; exact z7
                have x8 : wp.cell? ⟨wr.heap.size, 8, none⟩ = some (.bool lat.fa) := by rw [← hwp]; exact z8
                have x9 : wp.cell? ⟨wr.heap.size, 9, none⟩ = some (.int .i64 h) := by rw [← hwp]; exact z9
                have y1p : wp.cell? ⟨w9.heap.size, k, none⟩ = some (.bool false) := by rw [← hwp]; exact y1q
                have y2p : wp.cell? ⟨w9.heap.size + 1, k, none⟩ = some (.int .i64 la) := by rw [← hwp]; exact y2q
                have lw : wr.heap.size < wp.heap.size := World.block_lt_of_cell? wp _ x0
                have lw1 : w9.heap.size < wp.heap.size := by omega
                have lw2 : w9.heap.size + 1 < wp.heap.size := by omega
                clear hwp z0 z1 z2 z3 z4 z5 z6 z7 z8 z9 y1q y2q lz nz
                go_wp2
                generalize hwy : wp.alloc (Obj.cells #[.int .i64 lat.l0, .int .i64 lat.l1, .bool lat.la, .int .i64 lat.f0, .int .i64 lat.f1, .bool lat.fa] 66) = wy
                have hby : Below wr.heap.size wr wy := by rw [← hwy]; exact hbp.alloc (by omega) _
                have v0 : wy.cell? ⟨wp.heap.size, 0, none⟩ = some (.int .i64 lat.l0) := by rw [← hwy]; simp [go_sem]
                have v1 : wy.cell? ⟨wp.heap.size, 1, none⟩ = some (.int .i64 lat.l1) := by rw [← hwy]; simp [go_sem]
                have v2 : wy.cell? ⟨wp.heap.size, 2, none⟩ = some (.bool lat.la) := by rw [← hwy]; simp [go_sem]
                have v3 : wy.cell? ⟨wp.heap.size, 3, none⟩ = some (.int .i64 lat.f0) := by rw [← hwy]; simp [go_sem]
                have v4 : wy.cell? ⟨wp.heap.size, 4, none⟩ = some (.int .i64 lat.f1) := by rw [← hwy]; simp [go_sem]
                have v5 : wy.cell? ⟨wp.heap.size, 5, none⟩ = some (.bool lat.fa) := by rw [← hwy]; simp [go_sem]
                clear hwy x0 x1 x2 x3 x4 x5 x6 x7 x8 x9 y1p y2p
                have hry := hrk.below hby
                have lwy : wp.heap.size < wy.heap.size := World.block_lt_of_cell? wy _ v0
                go_region_held3 (fun w' => w'.cell? ⟨wp.heap.size, 0, none⟩ = some (.int .i64 lat.l0) ∧ w'.cell? ⟨wp.heap.size, 1, none⟩ = some (.int .i64 lat.l1) ∧ w'.cell? ⟨wp.heap.size, 2, none⟩ = some (.bool lat.la) ∧ w'.cell? ⟨wp.heap.size, 3, none⟩ = some (.int .i64 lat.f0) ∧ w'.cell? ⟨wp.heap.size, 4, none⟩ = some (.int .i64 lat.f1) ∧ w'.cell? ⟨wp.heap.size, 5, none⟩ = some (.bool lat.fa) ∧ Below wy.heap.size wy w')
                  (first | exact ⟨v0, v1, v2, v3, v4, v5, (Below.refl _ _).drew⟩ | exact ⟨(hb8.cell (p := ⟨wp.heap.size, 0, none⟩) lwy).trans v0, (hb8.cell (p := ⟨wp.heap.size, 1, none⟩) lwy).trans v1, (hb8.cell (p := ⟨wp.heap.size, 2, none⟩) lwy).trans v2, (hb8.cell (p := ⟨wp.heap.size, 3, none⟩) lwy).trans v3, (hb8.cell (p := ⟨wp.heap.size, 4, none⟩) lwy).trans v4, (hb8.cell (p := ⟨wp.heap.size, 5, none⟩) lwy).trans v5, (Below.refl _ _).drew.trans hb8⟩)
                  (first | (go_at_call 61; refine (latOf_any (aa k) ⟨ByteArray.empty, .slice none 0 0, .slice none 0 0, cl, false, false, lat, h⟩ _ ?_).mono ?_; (exact hry.drew); rintro e w8 ⟨rfl, hb8⟩) | (go_at_call 62; refine (heard_any (aa k) ⟨ByteArray.empty, .slice none 0 0, .slice none 0 0, cl, false, false, lat, h⟩ _ ?_).mono ?_; (exact hry.drew.below hb8); rintro e w7 ⟨rfl, hw7⟩; subst hw7))
                go_wp2
                go_roundw
                case rel => exact ⟨k + 1, by omega, by go_num, hny.trans ((hby.trans (((Below.refl wy.heap.size wy).drew.trans hb8).mono hby.size)).mono hny.size)⟩
                case measure => simp [intOf]; omega
              · have hrk : Blk wr (aa k) (Rec.cells ⟨ByteArray.empty, .slice none 0 0, .slice none 0 0, cl, false, true, lat, h⟩) 99 := hrk
                go_wp2
                go_quiet (first | (go_at_call 21; exact Calls.quiet_of_same (clashes_any (aa k) ⟨ByteArray.empty, .slice none 0 0, .slice none 0 0, cl, false, true, lat, h⟩ _ (hrk.alloc _))) | (go_at_call 60; exact Calls.quiet_of_same (everyw_any (aa k) ⟨ByteArray.empty, .slice none 0 0, .slice none 0 0, cl, false, true, lat, h⟩ _ (hrk.alloc _))))
                generalize hwq : World.drewN (wr.alloc (Obj.cells #[Value.bool cl, .bool false, .bool true, .int .i64 lat.l0, .int .i64 lat.l1, .bool lat.la, .int .i64 lat.f0, .int .i64 lat.f1, .bool lat.fa, .int .i64 h] 70)) nq = wq
                have hbq : Below wr.heap.size wr wq := by rw [← hwq]; exact below_drewN ((Below.refl _ _).alloc (Nat.le_refl _) _) nq
                have z0 : wq.cell? ⟨wr.heap.size, 0, none⟩ = some (.bool cl) := by rw [← hwq]; simp [go_sem]
                have z1 : wq.cell? ⟨wr.heap.size, 1, none⟩ = some (.bool false) := by rw [← hwq]; simp [go_sem]
                have z2 : wq.cell? ⟨wr.heap.size, 2, none⟩ = some (.bool true) := by rw [← hwq]; simp [go_sem]
                have z3 : wq.cell? ⟨wr.heap.size, 3, none⟩ = some (.int .i64 lat.l0) := by rw [← hwq]; simp [go_sem]
                have z4 : wq.cell? ⟨wr.heap.size, 4, none⟩ = some (.int .i64 lat.l1) := by rw [← hwq]; simp [go_sem]
                have z5 : wq.cell? ⟨wr.heap.size, 5, none⟩ = some (.bool lat.la) := by rw [← hwq]; simp [go_sem]
                have z6 : wq.cell? ⟨wr.heap.size, 6, none⟩ = some (.int .i64 lat.f0) := by rw [← hwq]; simp [go_sem]
                have z7 : wq.cell? ⟨wr.heap.size, 7, none⟩ = some (.int .i64 lat.f1) := by rw [← hwq]; simp [go_sem]
                have z8 : wq.cell? ⟨wr.heap.size, 8, none⟩ = some (.bool lat.fa) := by rw [← hwq]; simp [go_sem]
                have z9 : wq.cell? ⟨wr.heap.size, 9, none⟩ = some (.int .i64 h) := by rw [← hwq]; simp [go_sem]
                clear hwq
                have hrq := hrk.below hbq
                have y1q := (hbq.cell (p := ⟨w9.heap.size, k, none⟩) lg1).trans y1
                have y2q := (hbq.cell (p := ⟨w9.heap.size + 1, k, none⟩) lg2).trans y2
                have lz := World.block_lt_of_cell? wq _ z0
                have nz : ¬ wr.heap.size = wq.heap.size := by dsimp only at lz; omega
                clear y1 y2 p1 t0 t1 t2 t3 t4 t5 t6 t7 t8 t9
                go_wp2
                go_quiet ((go_at_call 59; exact Calls.quiet_of_same (decided_any (aa k) ⟨ByteArray.empty, .slice none 0 0, .slice none 0 0, cl, false, true, lat, h⟩ _ hrq)))
                generalize hwp : World.drewN wq nq = wp
                have hbp : Below wr.heap.size wr wp := by rw [← hwp]; exact below_drewN hbq nq
                have x0 : wp.cell? ⟨wr.heap.size, 0, none⟩ = some (.bool cl) := by rw [← hwp]; exact z0
                have x1 : wp.cell? ⟨wr.heap.size, 1, none⟩ = some (.bool false) := by rw [← hwp]; exact z1
                have x2 : wp.cell? ⟨wr.heap.size, 2, none⟩ = some (.bool true) := by rw [← hwp]; exact z2
                have x3 : wp.cell? ⟨wr.heap.size, 3, none⟩ = some (.int .i64 lat.l0) := by rw [← hwp]; exact z3
                have x4 : wp.cell? ⟨wr.heap.size, 4, none⟩ = some (.int .i64 lat.l1) := by rw [← hwp]; exact z4
                have x5 : wp.cell? ⟨wr.heap.size, 5, none⟩ = some (.bool lat.la) := by rw [← hwp]; exact z5
                have x6 : wp.cell? ⟨wr.heap.size, 6, none⟩ = some (.int .i64 lat.f0) := by rw [← hwp]; exact z6
                have x7 : wp.cell? ⟨wr.heap.size, 7, none⟩ = some (.int .i64 lat.f1) := by rw [← hwp]; exact z7
                have x8 : wp.cell? ⟨wr.heap.size, 8, none⟩ = some (.bool lat.fa) := by rw [← hwp]; exact z8
                have x9 : wp.cell? ⟨wr.heap.size, 9, none⟩ = some (.int .i64 h) := by rw [← hwp]; exact z9
                have y1p : wp.cell? ⟨w9.heap.size, k, none⟩ = some (.bool false) := by rw [← hwp]; exact y1q
                have y2p : wp.cell? ⟨w9.heap.size + 1, k, none⟩ = some (.int .i64 la) := by rw [← hwp]; exact y2q
                have lw : wr.heap.size < wp.heap.size := World.block_lt_of_cell? wp _ x0
                have lw1 : w9.heap.size < wp.heap.size := by omega
                have lw2 : w9.heap.size + 1 < wp.heap.size := by omega
                clear hwp z0 z1 z2 z3 z4 z5 z6 z7 z8 z9 y1q y2q lz nz
                go_wp2
                generalize hwy : wp.alloc (Obj.cells #[.int .i64 lat.l0, .int .i64 lat.l1, .bool lat.la, .int .i64 lat.f0, .int .i64 lat.f1, .bool lat.fa] 66) = wy
                have hby : Below wr.heap.size wr wy := by rw [← hwy]; exact hbp.alloc (by omega) _
                have v0 : wy.cell? ⟨wp.heap.size, 0, none⟩ = some (.int .i64 lat.l0) := by rw [← hwy]; simp [go_sem]
                have v1 : wy.cell? ⟨wp.heap.size, 1, none⟩ = some (.int .i64 lat.l1) := by rw [← hwy]; simp [go_sem]
                have v2 : wy.cell? ⟨wp.heap.size, 2, none⟩ = some (.bool lat.la) := by rw [← hwy]; simp [go_sem]
                have v3 : wy.cell? ⟨wp.heap.size, 3, none⟩ = some (.int .i64 lat.f0) := by rw [← hwy]; simp [go_sem]
                have v4 : wy.cell? ⟨wp.heap.size, 4, none⟩ = some (.int .i64 lat.f1) := by rw [← hwy]; simp [go_sem]
                have v5 : wy.cell? ⟨wp.heap.size, 5, none⟩ = some (.bool lat.fa) := by rw [← hwy]; simp [go_sem]
                clear hwy x0 x1 x2 x3 x4 x5 x6 x7 x8 x9 y1p y2p
                have hry := hrk.below hby
                have lwy : wp.heap.size < wy.heap.size := World.block_lt_of_cell? wy _ v0
                go_region_held3 (fun w' => w'.cell? ⟨wp.heap.size, 0, none⟩ = some (.int .i64 lat.l0) ∧ w'.cell? ⟨wp.heap.size, 1, none⟩ = some (.int .i64 lat.l1) ∧ w'.cell? ⟨wp.heap.size, 2, none⟩ = some (.bool lat.la) ∧ w'.cell? ⟨wp.heap.size, 3, none⟩ = some (.int .i64 lat.f0) ∧ w'.cell? ⟨wp.heap.size, 4, none⟩ = some (.int .i64 lat.f1) ∧ w'.cell? ⟨wp.heap.size, 5, none⟩ = some (.bool lat.fa) ∧ Below wy.heap.size wy w')
                  (first | exact ⟨v0, v1, v2, v3, v4, v5, (Below.refl _ _).drew⟩ | exact ⟨(hb8.cell (p := ⟨wp.heap.size, 0, none⟩) lwy).trans v0, (hb8.cell (p := ⟨wp.heap.size, 1, none⟩) lwy).trans v1, (hb8.cell (p := ⟨wp.heap.size, 2, none⟩) lwy).trans v2, (hb8.cell (p := ⟨wp.heap.size, 3, none⟩) lwy).trans v3, (hb8.cell (p := ⟨wp.heap.size, 4, none⟩) lwy).trans v4, (hb8.cell (p := ⟨wp.heap.size, 5, none⟩) lwy).trans v5, (Below.refl _ _).drew.trans hb8⟩)
                  (first | (go_at_call 61; refine (latOf_any (aa k) ⟨ByteArray.empty, .slice none 0 0, .slice none 0 0, cl, false, true, lat, h⟩ _ ?_).mono ?_; (exact hry.drew); rintro e w8 ⟨rfl, hb8⟩) | (go_at_call 62; refine (heard_any (aa k) ⟨ByteArray.empty, .slice none 0 0, .slice none 0 0, cl, false, true, lat, h⟩ _ ?_).mono ?_; (exact hry.drew.below hb8); rintro e w7 ⟨rfl, hw7⟩; subst hw7))
                go_wp2
                go_roundw
                case rel => exact ⟨k + 1, by omega, by go_num, hny.trans ((hby.trans (((Below.refl wy.heap.size wy).drew.trans hb8).mono hby.size)).mono hny.size)⟩
                case measure => simp [intOf]; omega
            · cases ev
              · have hrk : Blk wr (aa k) (Rec.cells ⟨ByteArray.empty, .slice none 0 0, .slice none 0 0, cl, true, false, lat, h⟩) 99 := hrk
                go_wp2
                go_quiet (first | (go_at_call 21; exact Calls.quiet_of_same (clashes_any (aa k) ⟨ByteArray.empty, .slice none 0 0, .slice none 0 0, cl, true, false, lat, h⟩ _ (hrk.alloc _))) | (go_at_call 60; exact Calls.quiet_of_same (everyw_any (aa k) ⟨ByteArray.empty, .slice none 0 0, .slice none 0 0, cl, true, false, lat, h⟩ _ (hrk.alloc _))))
                generalize hwq : World.drewN (wr.alloc (Obj.cells #[Value.bool cl, .bool true, .bool false, .int .i64 lat.l0, .int .i64 lat.l1, .bool lat.la, .int .i64 lat.f0, .int .i64 lat.f1, .bool lat.fa, .int .i64 h] 70)) nq = wq
                have hbq : Below wr.heap.size wr wq := by rw [← hwq]; exact below_drewN ((Below.refl _ _).alloc (Nat.le_refl _) _) nq
                have z0 : wq.cell? ⟨wr.heap.size, 0, none⟩ = some (.bool cl) := by rw [← hwq]; simp [go_sem]
                have z1 : wq.cell? ⟨wr.heap.size, 1, none⟩ = some (.bool true) := by rw [← hwq]; simp [go_sem]
                have z2 : wq.cell? ⟨wr.heap.size, 2, none⟩ = some (.bool false) := by rw [← hwq]; simp [go_sem]
                have z3 : wq.cell? ⟨wr.heap.size, 3, none⟩ = some (.int .i64 lat.l0) := by rw [← hwq]; simp [go_sem]
                have z4 : wq.cell? ⟨wr.heap.size, 4, none⟩ = some (.int .i64 lat.l1) := by rw [← hwq]; simp [go_sem]
                have z5 : wq.cell? ⟨wr.heap.size, 5, none⟩ = some (.bool lat.la) := by rw [← hwq]; simp [go_sem]
                have z6 : wq.cell? ⟨wr.heap.size, 6, none⟩ = some (.int .i64 lat.f0) := by rw [← hwq]; simp [go_sem]
                have z7 : wq.cell? ⟨wr.heap.size, 7, none⟩ = some (.int .i64 lat.f1) := by rw [← hwq]; simp [go_sem]
                have z8 : wq.cell? ⟨wr.heap.size, 8, none⟩ = some (.bool lat.fa) := by rw [← hwq]; simp [go_sem]
                have z9 : wq.cell? ⟨wr.heap.size, 9, none⟩ = some (.int .i64 h) := by rw [← hwq]; simp [go_sem]
                clear hwq
                have hrq := hrk.below hbq
                have y1q := (hbq.cell (p := ⟨w9.heap.size, k, none⟩) lg1).trans y1
                have y2q := (hbq.cell (p := ⟨w9.heap.size + 1, k, none⟩) lg2).trans y2
                have lz := World.block_lt_of_cell? wq _ z0
                have nz : ¬ wr.heap.size = wq.heap.size := by dsimp only at lz; omega
                clear y1 y2 p1 t0 t1 t2 t3 t4 t5 t6 t7 t8 t9
                go_wp2
                go_quiet ((go_at_call 59; exact Calls.quiet_of_same (decided_any (aa k) ⟨ByteArray.empty, .slice none 0 0, .slice none 0 0, cl, true, false, lat, h⟩ _ hrq)))
                generalize hwp : World.drewN wq nq = wp
                have hbp : Below wr.heap.size wr wp := by rw [← hwp]; exact below_drewN hbq nq
                have x0 : wp.cell? ⟨wr.heap.size, 0, none⟩ = some (.bool cl) := by rw [← hwp]; exact z0
                have x1 : wp.cell? ⟨wr.heap.size, 1, none⟩ = some (.bool true) := by rw [← hwp]; exact z1
                have x2 : wp.cell? ⟨wr.heap.size, 2, none⟩ = some (.bool false) := by rw [← hwp]; exact z2
                have x3 : wp.cell? ⟨wr.heap.size, 3, none⟩ = some (.int .i64 lat.l0) := by rw [← hwp]; exact z3
                have x4 : wp.cell? ⟨wr.heap.size, 4, none⟩ = some (.int .i64 lat.l1) := by rw [← hwp]; exact z4
                have x5 : wp.cell? ⟨wr.heap.size, 5, none⟩ = some (.bool lat.la) := by rw [← hwp]; exact z5
                have x6 : wp.cell? ⟨wr.heap.size, 6, none⟩ = some (.int .i64 lat.f0) := by rw [← hwp]; exact z6
                have x7 : wp.cell? ⟨wr.heap.size, 7, none⟩ = some (.int .i64 lat.f1) := by rw [← hwp]; exact z7
                have x8 : wp.cell? ⟨wr.heap.size, 8, none⟩ = some (.bool lat.fa) := by rw [← hwp]; exact z8
                have x9 : wp.cell? ⟨wr.heap.size, 9, none⟩ = some (.int .i64 h) := by rw [← hwp]; exact z9
                have y1p : wp.cell? ⟨w9.heap.size, k, none⟩ = some (.bool false) := by rw [← hwp]; exact y1q
                have y2p : wp.cell? ⟨w9.heap.size + 1, k, none⟩ = some (.int .i64 la) := by rw [← hwp]; exact y2q
                have lw : wr.heap.size < wp.heap.size := World.block_lt_of_cell? wp _ x0
                have lw1 : w9.heap.size < wp.heap.size := by omega
                have lw2 : w9.heap.size + 1 < wp.heap.size := by omega
                clear hwp z0 z1 z2 z3 z4 z5 z6 z7 z8 z9 y1q y2q lz nz
                go_wp2
                generalize hwy : wp.alloc (Obj.cells #[.int .i64 lat.l0, .int .i64 lat.l1, .bool lat.la, .int .i64 lat.f0, .int .i64 lat.f1, .bool lat.fa] 66) = wy
                have hby : Below wr.heap.size wr wy := by rw [← hwy]; exact hbp.alloc (by omega) _
                have v0 : wy.cell? ⟨wp.heap.size, 0, none⟩ = some (.int .i64 lat.l0) := by rw [← hwy]; simp [go_sem]
                have v1 : wy.cell? ⟨wp.heap.size, 1, none⟩ = some (.int .i64 lat.l1) := by rw [← hwy]; simp [go_sem]
                have v2 : wy.cell? ⟨wp.heap.size, 2, none⟩ = some (.bool lat.la) := by rw [← hwy]; simp [go_sem]
                have v3 : wy.cell? ⟨wp.heap.size, 3, none⟩ = some (.int .i64 lat.f0) := by rw [← hwy]; simp [go_sem]
                have v4 : wy.cell? ⟨wp.heap.size, 4, none⟩ = some (.int .i64 lat.f1) := by rw [← hwy]; simp [go_sem]
                have v5 : wy.cell? ⟨wp.heap.size, 5, none⟩ = some (.bool lat.fa) := by rw [← hwy]; simp [go_sem]
                clear hwy x0 x1 x2 x3 x4 x5 x6 x7 x8 x9 y1p y2p
                have hry := hrk.below hby
                have lwy : wp.heap.size < wy.heap.size := World.block_lt_of_cell? wy _ v0
                go_region_held3 (fun w' => w'.cell? ⟨wp.heap.size, 0, none⟩ = some (.int .i64 lat.l0) ∧ w'.cell? ⟨wp.heap.size, 1, none⟩ = some (.int .i64 lat.l1) ∧ w'.cell? ⟨wp.heap.size, 2, none⟩ = some (.bool lat.la) ∧ w'.cell? ⟨wp.heap.size, 3, none⟩ = some (.int .i64 lat.f0) ∧ w'.cell? ⟨wp.heap.size, 4, none⟩ = some (.int .i64 lat.f1) ∧ w'.cell? ⟨wp.heap.size, 5, none⟩ = some (.bool lat.fa) ∧ Below wy.heap.size wy w')
                  (first | exact ⟨v0, v1, v2, v3, v4, v5, (Below.refl _ _).drew⟩ | exact ⟨(hb8.cell (p := ⟨wp.heap.size, 0, none⟩) lwy).trans v0, (hb8.cell (p := ⟨wp.heap.size, 1, none⟩) lwy).trans v1, (hb8.cell (p := ⟨wp.heap.size, 2, none⟩) lwy).trans v2, (hb8.cell (p := ⟨wp.heap.size, 3, none⟩) lwy).trans v3, (hb8.cell (p := ⟨wp.heap.size, 4, none⟩) lwy).trans v4, (hb8.cell (p := ⟨wp.heap.size, 5, none⟩) lwy).trans v5, (Below.refl _ _).drew.trans hb8⟩)
                  (first | (go_at_call 61; refine (latOf_any (aa k) ⟨ByteArray.empty, .slice none 0 0, .slice none 0 0, cl, true, false, lat, h⟩ _ ?_).mono ?_; (exact hry.drew); rintro e w8 ⟨rfl, hb8⟩) | (go_at_call 62; refine (heard_any (aa k) ⟨ByteArray.empty, .slice none 0 0, .slice none 0 0, cl, true, false, lat, h⟩ _ ?_).mono ?_; (exact hry.drew.below hb8); rintro e w7 ⟨rfl, hw7⟩; subst hw7))
                go_wp2
                go_roundw
                case rel => exact ⟨k + 1, by omega, by go_num, hny.trans ((hby.trans (((Below.refl wy.heap.size wy).drew.trans hb8).mono hby.size)).mono hny.size)⟩
                case measure => simp [intOf]; omega
              · have hrk : Blk wr (aa k) (Rec.cells ⟨ByteArray.empty, .slice none 0 0, .slice none 0 0, cl, true, true, lat, h⟩) 99 := hrk
                go_wp2
                go_quiet (first | (go_at_call 21; exact Calls.quiet_of_same (clashes_any (aa k) ⟨ByteArray.empty, .slice none 0 0, .slice none 0 0, cl, true, true, lat, h⟩ _ (hrk.alloc _))) | (go_at_call 60; exact Calls.quiet_of_same (everyw_any (aa k) ⟨ByteArray.empty, .slice none 0 0, .slice none 0 0, cl, true, true, lat, h⟩ _ (hrk.alloc _))))
                generalize hwq : World.drewN (wr.alloc (Obj.cells #[Value.bool cl, .bool true, .bool true, .int .i64 lat.l0, .int .i64 lat.l1, .bool lat.la, .int .i64 lat.f0, .int .i64 lat.f1, .bool lat.fa, .int .i64 h] 70)) nq = wq
                have hbq : Below wr.heap.size wr wq := by rw [← hwq]; exact below_drewN ((Below.refl _ _).alloc (Nat.le_refl _) _) nq
                have z0 : wq.cell? ⟨wr.heap.size, 0, none⟩ = some (.bool cl) := by rw [← hwq]; simp [go_sem]
                have z1 : wq.cell? ⟨wr.heap.size, 1, none⟩ = some (.bool true) := by rw [← hwq]; simp [go_sem]
                have z2 : wq.cell? ⟨wr.heap.size, 2, none⟩ = some (.bool true) := by rw [← hwq]; simp [go_sem]
                have z3 : wq.cell? ⟨wr.heap.size, 3, none⟩ = some (.int .i64 lat.l0) := by rw [← hwq]; simp [go_sem]
                have z4 : wq.cell? ⟨wr.heap.size, 4, none⟩ = some (.int .i64 lat.l1) := by rw [← hwq]; simp [go_sem]
                have z5 : wq.cell? ⟨wr.heap.size, 5, none⟩ = some (.bool lat.la) := by rw [← hwq]; simp [go_sem]
                have z6 : wq.cell? ⟨wr.heap.size, 6, none⟩ = some (.int .i64 lat.f0) := by rw [← hwq]; simp [go_sem]
                have z7 : wq.cell? ⟨wr.heap.size, 7, none⟩ = some (.int .i64 lat.f1) := by rw [← hwq]; simp [go_sem]
                have z8 : wq.cell? ⟨wr.heap.size, 8, none⟩ = some (.bool lat.fa) := by rw [← hwq]; simp [go_sem]
                have z9 : wq.cell? ⟨wr.heap.size, 9, none⟩ = some (.int .i64 h) := by rw [← hwq]; simp [go_sem]
                clear hwq
                have hrq := hrk.below hbq
                have y1q := (hbq.cell (p := ⟨w9.heap.size, k, none⟩) lg1).trans y1
                have y2q := (hbq.cell (p := ⟨w9.heap.size + 1, k, none⟩) lg2).trans y2
                have lz := World.block_lt_of_cell? wq _ z0
                have nz : ¬ wr.heap.size = wq.heap.size := by dsimp only at lz; omega
                clear y1 y2 p1 t0 t1 t2 t3 t4 t5 t6 t7 t8 t9
                go_wp2
                go_quiet ((go_at_call 59; exact Calls.quiet_of_same (decided_any (aa k) ⟨ByteArray.empty, .slice none 0 0, .slice none 0 0, cl, true, true, lat, h⟩ _ hrq)))
                generalize hwp : World.drewN wq nq = wp
                have hbp : Below wr.heap.size wr wp := by rw [← hwp]; exact below_drewN hbq nq
                have x0 : wp.cell? ⟨wr.heap.size, 0, none⟩ = some (.bool cl) := by rw [← hwp]; exact z0
                have x1 : wp.cell? ⟨wr.heap.size, 1, none⟩ = some (.bool true) := by rw [← hwp]; exact z1
                have x2 : wp.cell? ⟨wr.heap.size, 2, none⟩ = some (.bool true) := by rw [← hwp]; exact z2
                have x3 : wp.cell? ⟨wr.heap.size, 3, none⟩ = some (.int .i64 lat.l0) := by rw [← hwp]; exact z3
                have x4 : wp.cell? ⟨wr.heap.size, 4, none⟩ = some (.int .i64 lat.l1) := by rw [← hwp]; exact z4
                have x5 : wp.cell? ⟨wr.heap.size, 5, none⟩ = some (.bool lat.la) := by rw [← hwp]; exact z5
                have x6 : wp.cell? ⟨wr.heap.size, 6, none⟩ = some (.int .i64 lat.f0) := by rw [← hwp]; exact z6
                have x7 : wp.cell? ⟨wr.heap.size, 7, none⟩ = some (.int .i64 lat.f1) := by rw [← hwp]; exact z7
                have x8 : wp.cell? ⟨wr.heap.size, 8, none⟩ = some (.bool lat.fa) := by rw [← hwp]; exact z8
                have x9 : wp.cell? ⟨wr.heap.size, 9, none⟩ = some (.int .i64 h) := by rw [← hwp]; exact z9
                have y1p : wp.cell? ⟨w9.heap.size, k, none⟩ = some (.bool false) := by rw [← hwp]; exact y1q
                have y2p : wp.cell? ⟨w9.heap.size + 1, k, none⟩ = some (.int .i64 la) := by rw [← hwp]; exact y2q
                have lw : wr.heap.size < wp.heap.size := World.block_lt_of_cell? wp _ x0
                have lw1 : w9.heap.size < wp.heap.size := by omega
                have lw2 : w9.heap.size + 1 < wp.heap.size := by omega
                clear hwp z0 z1 z2 z3 z4 z5 z6 z7 z8 z9 y1q y2q lz nz
                go_wp2
                generalize hwy : wp.alloc (Obj.cells #[.int .i64 lat.l0, .int .i64 lat.l1, .bool lat.la, .int .i64 lat.f0, .int .i64 lat.f1, .bool lat.fa] 66) = wy
                have hby : Below wr.heap.size wr wy := by rw [← hwy]; exact hbp.alloc (by omega) _
                have v0 : wy.cell? ⟨wp.heap.size, 0, none⟩ = some (.int .i64 lat.l0) := by rw [← hwy]; simp [go_sem]
                have v1 : wy.cell? ⟨wp.heap.size, 1, none⟩ = some (.int .i64 lat.l1) := by rw [← hwy]; simp [go_sem]
                have v2 : wy.cell? ⟨wp.heap.size, 2, none⟩ = some (.bool lat.la) := by rw [← hwy]; simp [go_sem]
                have v3 : wy.cell? ⟨wp.heap.size, 3, none⟩ = some (.int .i64 lat.f0) := by rw [← hwy]; simp [go_sem]
                have v4 : wy.cell? ⟨wp.heap.size, 4, none⟩ = some (.int .i64 lat.f1) := by rw [← hwy]; simp [go_sem]
                have v5 : wy.cell? ⟨wp.heap.size, 5, none⟩ = some (.bool lat.fa) := by rw [← hwy]; simp [go_sem]
                clear hwy x0 x1 x2 x3 x4 x5 x6 x7 x8 x9 y1p y2p
                have hry := hrk.below hby
                have lwy : wp.heap.size < wy.heap.size := World.block_lt_of_cell? wy _ v0
                go_region_held3 (fun w' => w'.cell? ⟨wp.heap.size, 0, none⟩ = some (.int .i64 lat.l0) ∧ w'.cell? ⟨wp.heap.size, 1, none⟩ = some (.int .i64 lat.l1) ∧ w'.cell? ⟨wp.heap.size, 2, none⟩ = some (.bool lat.la) ∧ w'.cell? ⟨wp.heap.size, 3, none⟩ = some (.int .i64 lat.f0) ∧ w'.cell? ⟨wp.heap.size, 4, none⟩ = some (.int .i64 lat.f1) ∧ w'.cell? ⟨wp.heap.size, 5, none⟩ = some (.bool lat.fa) ∧ Below wy.heap.size wy w')
                  (first | exact ⟨v0, v1, v2, v3, v4, v5, (Below.refl _ _).drew⟩ | exact ⟨(hb8.cell (p := ⟨wp.heap.size, 0, none⟩) lwy).trans v0, (hb8.cell (p := ⟨wp.heap.size, 1, none⟩) lwy).trans v1, (hb8.cell (p := ⟨wp.heap.size, 2, none⟩) lwy).trans v2, (hb8.cell (p := ⟨wp.heap.size, 3, none⟩) lwy).trans v3, (hb8.cell (p := ⟨wp.heap.size, 4, none⟩) lwy).trans v4, (hb8.cell (p := ⟨wp.heap.size, 5, none⟩) lwy).trans v5, (Below.refl _ _).drew.trans hb8⟩)
                  (first | (go_at_call 61; refine (latOf_any (aa k) ⟨ByteArray.empty, .slice none 0 0, .slice none 0 0, cl, true, true, lat, h⟩ _ ?_).mono ?_; (exact hry.drew); rintro e w8 ⟨rfl, hb8⟩) | (go_at_call 62; refine (heard_any (aa k) ⟨ByteArray.empty, .slice none 0 0, .slice none 0 0, cl, true, true, lat, h⟩ _ ?_).mono ?_; (exact hry.drew.below hb8); rintro e w7 ⟨rfl, hw7⟩; subst hw7))
                go_wp2
                go_roundw
                case rel => exact ⟨k + 1, by omega, by go_num, hny.trans ((hby.trans (((Below.refl wy.heap.size wy).drew.trans hb8).mono hby.size)).mono hny.size)⟩
                case measure => simp [intOf]; omega
          · cases de
            · cases ev
              · have hrk : Blk wr (aa k) (Rec.cells ⟨ByteArray.empty, .slice none 0 0, .slice none 0 0, cl, true, false, ⟨0, 0, false, 0, 0, false⟩, h⟩) 99 := hrk
                go_wp2
                go_quiet (first | (go_at_call 21; exact Calls.quiet_of_same (clashes_any (aa k) ⟨ByteArray.empty, .slice none 0 0, .slice none 0 0, cl, true, false, ⟨0, 0, false, 0, 0, false⟩, h⟩ _ (hrk.alloc _))) | (go_at_call 60; exact Calls.quiet_of_same (everyw_any (aa k) ⟨ByteArray.empty, .slice none 0 0, .slice none 0 0, cl, true, false, ⟨0, 0, false, 0, 0, false⟩, h⟩ _ (hrk.alloc _))))
                generalize hwq : World.drewN (wr.alloc (Obj.cells #[Value.bool cl, .bool false, .bool false, .int .i64 lat.l0, .int .i64 lat.l1, .bool lat.la, .int .i64 lat.f0, .int .i64 lat.f1, .bool lat.fa, .int .i64 h] 70)) nq = wq
                have hbq : Below wr.heap.size wr wq := by rw [← hwq]; exact below_drewN ((Below.refl _ _).alloc (Nat.le_refl _) _) nq
                have z0 : wq.cell? ⟨wr.heap.size, 0, none⟩ = some (.bool cl) := by rw [← hwq]; simp [go_sem]
                have z1 : wq.cell? ⟨wr.heap.size, 1, none⟩ = some (.bool false) := by rw [← hwq]; simp [go_sem]
                have z2 : wq.cell? ⟨wr.heap.size, 2, none⟩ = some (.bool false) := by rw [← hwq]; simp [go_sem]
                have z3 : wq.cell? ⟨wr.heap.size, 3, none⟩ = some (.int .i64 lat.l0) := by rw [← hwq]; simp [go_sem]
                have z4 : wq.cell? ⟨wr.heap.size, 4, none⟩ = some (.int .i64 lat.l1) := by rw [← hwq]; simp [go_sem]
                have z5 : wq.cell? ⟨wr.heap.size, 5, none⟩ = some (.bool lat.la) := by rw [← hwq]; simp [go_sem]
                have z6 : wq.cell? ⟨wr.heap.size, 6, none⟩ = some (.int .i64 lat.f0) := by rw [← hwq]; simp [go_sem]
                have z7 : wq.cell? ⟨wr.heap.size, 7, none⟩ = some (.int .i64 lat.f1) := by rw [← hwq]; simp [go_sem]
                have z8 : wq.cell? ⟨wr.heap.size, 8, none⟩ = some (.bool lat.fa) := by rw [← hwq]; simp [go_sem]
                have z9 : wq.cell? ⟨wr.heap.size, 9, none⟩ = some (.int .i64 h) := by rw [← hwq]; simp [go_sem]
                clear hwq
                have hrq := hrk.below hbq
                have y1q := (hbq.cell (p := ⟨w9.heap.size, k, none⟩) lg1).trans y1
                have y2q := (hbq.cell (p := ⟨w9.heap.size + 1, k, none⟩) lg2).trans y2
                have lz := World.block_lt_of_cell? wq _ z0
                have nz : ¬ wr.heap.size = wq.heap.size := by dsimp only at lz; omega
                clear y1 y2 p1 t0 t1 t2 t3 t4 t5 t6 t7 t8 t9
                go_wp2
                go_quiet ((go_at_call 59; exact Calls.quiet_of_same (decided_any (aa k) ⟨ByteArray.empty, .slice none 0 0, .slice none 0 0, cl, true, false, ⟨0, 0, false, 0, 0, false⟩, h⟩ _ hrq)))
                generalize hwp : World.drewN wq nq = wp
                have hbp : Below wr.heap.size wr wp := by rw [← hwp]; exact below_drewN hbq nq
                have x0 : wp.cell? ⟨wr.heap.size, 0, none⟩ = some (.bool cl) := by rw [← hwp]; exact z0
                have x1 : wp.cell? ⟨wr.heap.size, 1, none⟩ = some (.bool false) := by rw [← hwp]; exact z1
                have x2 : wp.cell? ⟨wr.heap.size, 2, none⟩ = some (.bool false) := by rw [← hwp]; exact z2
                have x3 : wp.cell? ⟨wr.heap.size, 3, none⟩ = some (.int .i64 lat.l0) := by rw [← hwp]; exact z3
                have x4 : wp.cell? ⟨wr.heap.size, 4, none⟩ = some (.int .i64 lat.l1) := by rw [← hwp]; exact z4
                have x5 : wp.cell? ⟨wr.heap.size, 5, none⟩ = some (.bool lat.la) := by rw [← hwp]; exact z5
                have x6 : wp.cell? ⟨wr.heap.size, 6, none⟩ = some (.int .i64 lat.f0) := by rw [← hwp]; exact z6
                have x7 : wp.cell? ⟨wr.heap.size, 7, none⟩ = some (.int .i64 lat.f1) := by rw [← hwp]; exact z7
                have x8 : wp.cell? ⟨wr.heap.size, 8, none⟩ = some (.bool lat.fa) := by rw [← hwp]; exact z8
                have x9 : wp.cell? ⟨wr.heap.size, 9, none⟩ = some (.int .i64 h) := by rw [← hwp]; exact z9
                have y1p : wp.cell? ⟨w9.heap.size, k, none⟩ = some (.bool true) := by rw [← hwp]; exact y1q
                have y2p : wp.cell? ⟨w9.heap.size + 1, k, none⟩ = some (.int .i64 la) := by rw [← hwp]; exact y2q
                have lw : wr.heap.size < wp.heap.size := World.block_lt_of_cell? wp _ x0
                have lw1 : w9.heap.size < wp.heap.size := by omega
                have lw2 : w9.heap.size + 1 < wp.heap.size := by omega
                clear hwp z0 z1 z2 z3 z4 z5 z6 z7 z8 z9 y1q y2q lz nz
                go_wp2
                generalize hwy : wp.alloc (Obj.cells #[.int .i64 0, .int .i64 0, .bool false, .int .i64 0, .int .i64 0, .bool false] 66) = wy
                have hby : Below wr.heap.size wr wy := by rw [← hwy]; exact hbp.alloc (by omega) _
                have v0 : wy.cell? ⟨wp.heap.size, 0, none⟩ = some (.int .i64 0) := by rw [← hwy]; simp [go_sem]
                have v1 : wy.cell? ⟨wp.heap.size, 1, none⟩ = some (.int .i64 0) := by rw [← hwy]; simp [go_sem]
                have v2 : wy.cell? ⟨wp.heap.size, 2, none⟩ = some (.bool false) := by rw [← hwy]; simp [go_sem]
                have v3 : wy.cell? ⟨wp.heap.size, 3, none⟩ = some (.int .i64 0) := by rw [← hwy]; simp [go_sem]
                have v4 : wy.cell? ⟨wp.heap.size, 4, none⟩ = some (.int .i64 0) := by rw [← hwy]; simp [go_sem]
                have v5 : wy.cell? ⟨wp.heap.size, 5, none⟩ = some (.bool false) := by rw [← hwy]; simp [go_sem]
                clear hwy x0 x1 x2 x3 x4 x5 x6 x7 x8 x9 y1p y2p
                have hry := hrk.below hby
                have lwy : wp.heap.size < wy.heap.size := World.block_lt_of_cell? wy _ v0
                go_region_held3 (fun w' => w'.cell? ⟨wp.heap.size, 0, none⟩ = some (.int .i64 0) ∧ w'.cell? ⟨wp.heap.size, 1, none⟩ = some (.int .i64 0) ∧ w'.cell? ⟨wp.heap.size, 2, none⟩ = some (.bool false) ∧ w'.cell? ⟨wp.heap.size, 3, none⟩ = some (.int .i64 0) ∧ w'.cell? ⟨wp.heap.size, 4, none⟩ = some (.int .i64 0) ∧ w'.cell? ⟨wp.heap.size, 5, none⟩ = some (.bool false) ∧ Below wy.heap.size wy w')
                  (first | exact ⟨v0, v1, v2, v3, v4, v5, (Below.refl _ _).drew⟩ | exact ⟨(hb8.cell (p := ⟨wp.heap.size, 0, none⟩) lwy).trans v0, (hb8.cell (p := ⟨wp.heap.size, 1, none⟩) lwy).trans v1, (hb8.cell (p := ⟨wp.heap.size, 2, none⟩) lwy).trans v2, (hb8.cell (p := ⟨wp.heap.size, 3, none⟩) lwy).trans v3, (hb8.cell (p := ⟨wp.heap.size, 4, none⟩) lwy).trans v4, (hb8.cell (p := ⟨wp.heap.size, 5, none⟩) lwy).trans v5, (Below.refl _ _).drew.trans hb8⟩)
                  (first | (go_at_call 61; refine (latOf_any (aa k) ⟨ByteArray.empty, .slice none 0 0, .slice none 0 0, cl, true, false, ⟨0, 0, false, 0, 0, false⟩, h⟩ _ ?_).mono ?_; (exact hry.drew); rintro e w8 ⟨rfl, hb8⟩) | (go_at_call 62; refine (heard_any (aa k) ⟨ByteArray.empty, .slice none 0 0, .slice none 0 0, cl, true, false, ⟨0, 0, false, 0, 0, false⟩, h⟩ _ ?_).mono ?_; (exact hry.drew.below hb8); rintro e w7 ⟨rfl, hw7⟩; subst hw7))
                go_wp2
                go_roundw
                case rel => exact ⟨k + 1, by omega, by go_num, hny.trans ((hby.trans (((Below.refl wy.heap.size wy).drew.trans hb8).mono hby.size)).mono hny.size)⟩
                case measure => simp [intOf]; omega
              · have hrk : Blk wr (aa k) (Rec.cells ⟨ByteArray.empty, .slice none 0 0, .slice none 0 0, cl, true, true, ⟨0, 0, false, 0, 0, false⟩, la⟩) 99 := hrk
                go_wp2
                go_quiet (first | (go_at_call 21; exact Calls.quiet_of_same (clashes_any (aa k) ⟨ByteArray.empty, .slice none 0 0, .slice none 0 0, cl, true, true, ⟨0, 0, false, 0, 0, false⟩, la⟩ _ (hrk.alloc _))) | (go_at_call 60; exact Calls.quiet_of_same (everyw_any (aa k) ⟨ByteArray.empty, .slice none 0 0, .slice none 0 0, cl, true, true, ⟨0, 0, false, 0, 0, false⟩, la⟩ _ (hrk.alloc _))))
                generalize hwq : World.drewN (wr.alloc (Obj.cells #[Value.bool cl, .bool false, .bool true, .int .i64 lat.l0, .int .i64 lat.l1, .bool lat.la, .int .i64 lat.f0, .int .i64 lat.f1, .bool lat.fa, .int .i64 h] 70)) nq = wq
                have hbq : Below wr.heap.size wr wq := by rw [← hwq]; exact below_drewN ((Below.refl _ _).alloc (Nat.le_refl _) _) nq
                have z0 : wq.cell? ⟨wr.heap.size, 0, none⟩ = some (.bool cl) := by rw [← hwq]; simp [go_sem]
                have z1 : wq.cell? ⟨wr.heap.size, 1, none⟩ = some (.bool false) := by rw [← hwq]; simp [go_sem]
                have z2 : wq.cell? ⟨wr.heap.size, 2, none⟩ = some (.bool true) := by rw [← hwq]; simp [go_sem]
                have z3 : wq.cell? ⟨wr.heap.size, 3, none⟩ = some (.int .i64 lat.l0) := by rw [← hwq]; simp [go_sem]
                have z4 : wq.cell? ⟨wr.heap.size, 4, none⟩ = some (.int .i64 lat.l1) := by rw [← hwq]; simp [go_sem]
                have z5 : wq.cell? ⟨wr.heap.size, 5, none⟩ = some (.bool lat.la) := by rw [← hwq]; simp [go_sem]
                have z6 : wq.cell? ⟨wr.heap.size, 6, none⟩ = some (.int .i64 lat.f0) := by rw [← hwq]; simp [go_sem]
                have z7 : wq.cell? ⟨wr.heap.size, 7, none⟩ = some (.int .i64 lat.f1) := by rw [← hwq]; simp [go_sem]
                have z8 : wq.cell? ⟨wr.heap.size, 8, none⟩ = some (.bool lat.fa) := by rw [← hwq]; simp [go_sem]
                have z9 : wq.cell? ⟨wr.heap.size, 9, none⟩ = some (.int .i64 h) := by rw [← hwq]; simp [go_sem]
                clear hwq
                have hrq := hrk.below hbq
                have y1q := (hbq.cell (p := ⟨w9.heap.size, k, none⟩) lg1).trans y1
                have y2q := (hbq.cell (p := ⟨w9.heap.size + 1, k, none⟩) lg2).trans y2
                have lz := World.block_lt_of_cell? wq _ z0
                have nz : ¬ wr.heap.size = wq.heap.size := by dsimp only at lz; omega
                clear y1 y2 p1 t0 t1 t2 t3 t4 t5 t6 t7 t8 t9
                go_wp2
                go_quiet ((go_at_call 59; exact Calls.quiet_of_same (decided_any (aa k) ⟨ByteArray.empty, .slice none 0 0, .slice none 0 0, cl, true, true, ⟨0, 0, false, 0, 0, false⟩, la⟩ _ hrq)))
                generalize hwp : World.drewN wq nq = wp
                have hbp : Below wr.heap.size wr wp := by rw [← hwp]; exact below_drewN hbq nq
                have x0 : wp.cell? ⟨wr.heap.size, 0, none⟩ = some (.bool cl) := by rw [← hwp]; exact z0
                have x1 : wp.cell? ⟨wr.heap.size, 1, none⟩ = some (.bool false) := by rw [← hwp]; exact z1
                have x2 : wp.cell? ⟨wr.heap.size, 2, none⟩ = some (.bool true) := by rw [← hwp]; exact z2
                have x3 : wp.cell? ⟨wr.heap.size, 3, none⟩ = some (.int .i64 lat.l0) := by rw [← hwp]; exact z3
                have x4 : wp.cell? ⟨wr.heap.size, 4, none⟩ = some (.int .i64 lat.l1) := by rw [← hwp]; exact z4
                have x5 : wp.cell? ⟨wr.heap.size, 5, none⟩ = some (.bool lat.la) := by rw [← hwp]; exact z5
                have x6 : wp.cell? ⟨wr.heap.size, 6, none⟩ = some (.int .i64 lat.f0) := by rw [← hwp]; exact z6
                have x7 : wp.cell? ⟨wr.heap.size, 7, none⟩ = some (.int .i64 lat.f1) := by rw [← hwp]; exact z7
                have x8 : wp.cell? ⟨wr.heap.size, 8, none⟩ = some (.bool lat.fa) := by rw [← hwp]; exact z8
                have x9 : wp.cell? ⟨wr.heap.size, 9, none⟩ = some (.int .i64 h) := by rw [← hwp]; exact z9
                have y1p : wp.cell? ⟨w9.heap.size, k, none⟩ = some (.bool true) := by rw [← hwp]; exact y1q
                have y2p : wp.cell? ⟨w9.heap.size + 1, k, none⟩ = some (.int .i64 la) := by rw [← hwp]; exact y2q
                have lw : wr.heap.size < wp.heap.size := World.block_lt_of_cell? wp _ x0
                have lw1 : w9.heap.size < wp.heap.size := by omega
                have lw2 : w9.heap.size + 1 < wp.heap.size := by omega
                clear hwp z0 z1 z2 z3 z4 z5 z6 z7 z8 z9 y1q y2q lz nz
                go_wp2
                generalize hwy : wp.alloc (Obj.cells #[.int .i64 0, .int .i64 0, .bool false, .int .i64 0, .int .i64 0, .bool false] 66) = wy
                have hby : Below wr.heap.size wr wy := by rw [← hwy]; exact hbp.alloc (by omega) _
                have v0 : wy.cell? ⟨wp.heap.size, 0, none⟩ = some (.int .i64 0) := by rw [← hwy]; simp [go_sem]
                have v1 : wy.cell? ⟨wp.heap.size, 1, none⟩ = some (.int .i64 0) := by rw [← hwy]; simp [go_sem]
                have v2 : wy.cell? ⟨wp.heap.size, 2, none⟩ = some (.bool false) := by rw [← hwy]; simp [go_sem]
                have v3 : wy.cell? ⟨wp.heap.size, 3, none⟩ = some (.int .i64 0) := by rw [← hwy]; simp [go_sem]
                have v4 : wy.cell? ⟨wp.heap.size, 4, none⟩ = some (.int .i64 0) := by rw [← hwy]; simp [go_sem]
                have v5 : wy.cell? ⟨wp.heap.size, 5, none⟩ = some (.bool false) := by rw [← hwy]; simp [go_sem]
                clear hwy x0 x1 x2 x3 x4 x5 x6 x7 x8 x9 y1p y2p
                have hry := hrk.below hby
                have lwy : wp.heap.size < wy.heap.size := World.block_lt_of_cell? wy _ v0
                go_region_held3 (fun w' => w'.cell? ⟨wp.heap.size, 0, none⟩ = some (.int .i64 0) ∧ w'.cell? ⟨wp.heap.size, 1, none⟩ = some (.int .i64 0) ∧ w'.cell? ⟨wp.heap.size, 2, none⟩ = some (.bool false) ∧ w'.cell? ⟨wp.heap.size, 3, none⟩ = some (.int .i64 0) ∧ w'.cell? ⟨wp.heap.size, 4, none⟩ = some (.int .i64 0) ∧ w'.cell? ⟨wp.heap.size, 5, none⟩ = some (.bool false) ∧ Below wy.heap.size wy w')
                  (first | exact ⟨v0, v1, v2, v3, v4, v5, (Below.refl _ _).drew⟩ | exact ⟨(hb8.cell (p := ⟨wp.heap.size, 0, none⟩) lwy).trans v0, (hb8.cell (p := ⟨wp.heap.size, 1, none⟩) lwy).trans v1, (hb8.cell (p := ⟨wp.heap.size, 2, none⟩) lwy).trans v2, (hb8.cell (p := ⟨wp.heap.size, 3, none⟩) lwy).trans v3, (hb8.cell (p := ⟨wp.heap.size, 4, none⟩) lwy).trans v4, (hb8.cell (p := ⟨wp.heap.size, 5, none⟩) lwy).trans v5, (Below.refl _ _).drew.trans hb8⟩)
                  (first | (go_at_call 61; refine (latOf_any (aa k) ⟨ByteArray.empty, .slice none 0 0, .slice none 0 0, cl, true, true, ⟨0, 0, false, 0, 0, false⟩, la⟩ _ ?_).mono ?_; (exact hry.drew); rintro e w8 ⟨rfl, hb8⟩) | (go_at_call 62; refine (heard_any (aa k) ⟨ByteArray.empty, .slice none 0 0, .slice none 0 0, cl, true, true, ⟨0, 0, false, 0, 0, false⟩, la⟩ _ ?_).mono ?_; (exact hry.drew.below hb8); rintro e w7 ⟨rfl, hw7⟩; subst hw7))
                go_wp2
                go_roundw
                case rel => exact ⟨k + 1, by omega, by go_num, hny.trans ((hby.trans (((Below.refl wy.heap.size wy).drew.trans hb8).mono hby.size)).mono hny.size)⟩
                case measure => simp [intOf]; omega
            · cases ev
              · have hrk : Blk wr (aa k) (Rec.cells ⟨ByteArray.empty, .slice none 0 0, .slice none 0 0, cl, true, false, ⟨0, 0, false, 0, 0, false⟩, h⟩) 99 := hrk
                go_wp2
                go_quiet (first | (go_at_call 21; exact Calls.quiet_of_same (clashes_any (aa k) ⟨ByteArray.empty, .slice none 0 0, .slice none 0 0, cl, true, false, ⟨0, 0, false, 0, 0, false⟩, h⟩ _ (hrk.alloc _))) | (go_at_call 60; exact Calls.quiet_of_same (everyw_any (aa k) ⟨ByteArray.empty, .slice none 0 0, .slice none 0 0, cl, true, false, ⟨0, 0, false, 0, 0, false⟩, h⟩ _ (hrk.alloc _))))
                generalize hwq : World.drewN (wr.alloc (Obj.cells #[Value.bool cl, .bool true, .bool false, .int .i64 lat.l0, .int .i64 lat.l1, .bool lat.la, .int .i64 lat.f0, .int .i64 lat.f1, .bool lat.fa, .int .i64 h] 70)) nq = wq
                have hbq : Below wr.heap.size wr wq := by rw [← hwq]; exact below_drewN ((Below.refl _ _).alloc (Nat.le_refl _) _) nq
                have z0 : wq.cell? ⟨wr.heap.size, 0, none⟩ = some (.bool cl) := by rw [← hwq]; simp [go_sem]
                have z1 : wq.cell? ⟨wr.heap.size, 1, none⟩ = some (.bool true) := by rw [← hwq]; simp [go_sem]
                have z2 : wq.cell? ⟨wr.heap.size, 2, none⟩ = some (.bool false) := by rw [← hwq]; simp [go_sem]
                have z3 : wq.cell? ⟨wr.heap.size, 3, none⟩ = some (.int .i64 lat.l0) := by rw [← hwq]; simp [go_sem]
                have z4 : wq.cell? ⟨wr.heap.size, 4, none⟩ = some (.int .i64 lat.l1) := by rw [← hwq]; simp [go_sem]
                have z5 : wq.cell? ⟨wr.heap.size, 5, none⟩ = some (.bool lat.la) := by rw [← hwq]; simp [go_sem]
                have z6 : wq.cell? ⟨wr.heap.size, 6, none⟩ = some (.int .i64 lat.f0) := by rw [← hwq]; simp [go_sem]
                have z7 : wq.cell? ⟨wr.heap.size, 7, none⟩ = some (.int .i64 lat.f1) := by rw [← hwq]; simp [go_sem]
                have z8 : wq.cell? ⟨wr.heap.size, 8, none⟩ = some (.bool lat.fa) := by rw [← hwq]; simp [go_sem]
                have z9 : wq.cell? ⟨wr.heap.size, 9, none⟩ = some (.int .i64 h) := by rw [← hwq]; simp [go_sem]
                clear hwq
                have hrq := hrk.below hbq
                have y1q := (hbq.cell (p := ⟨w9.heap.size, k, none⟩) lg1).trans y1
                have y2q := (hbq.cell (p := ⟨w9.heap.size + 1, k, none⟩) lg2).trans y2
                have lz := World.block_lt_of_cell? wq _ z0
                have nz : ¬ wr.heap.size = wq.heap.size := by dsimp only at lz; omega
                clear y1 y2 p1 t0 t1 t2 t3 t4 t5 t6 t7 t8 t9
                go_wp2
                go_quiet ((go_at_call 59; exact Calls.quiet_of_same (decided_any (aa k) ⟨ByteArray.empty, .slice none 0 0, .slice none 0 0, cl, true, false, ⟨0, 0, false, 0, 0, false⟩, h⟩ _ hrq)))
                generalize hwp : World.drewN wq nq = wp
                have hbp : Below wr.heap.size wr wp := by rw [← hwp]; exact below_drewN hbq nq
                have x0 : wp.cell? ⟨wr.heap.size, 0, none⟩ = some (.bool cl) := by rw [← hwp]; exact z0
                have x1 : wp.cell? ⟨wr.heap.size, 1, none⟩ = some (.bool true) := by rw [← hwp]; exact z1
                have x2 : wp.cell? ⟨wr.heap.size, 2, none⟩ = some (.bool false) := by rw [← hwp]; exact z2
                have x3 : wp.cell? ⟨wr.heap.size, 3, none⟩ = some (.int .i64 lat.l0) := by rw [← hwp]; exact z3
                have x4 : wp.cell? ⟨wr.heap.size, 4, none⟩ = some (.int .i64 lat.l1) := by rw [← hwp]; exact z4
                have x5 : wp.cell? ⟨wr.heap.size, 5, none⟩ = some (.bool lat.la) := by rw [← hwp]; exact z5
                have x6 : wp.cell? ⟨wr.heap.size, 6, none⟩ = some (.int .i64 lat.f0) := by rw [← hwp]; exact z6
                have x7 : wp.cell? ⟨wr.heap.size, 7, none⟩ = some (.int .i64 lat.f1) := by rw [← hwp]; exact z7
                have x8 : wp.cell? ⟨wr.heap.size, 8, none⟩ = some (.bool lat.fa) := by rw [← hwp]; exact z8
                have x9 : wp.cell? ⟨wr.heap.size, 9, none⟩ = some (.int .i64 h) := by rw [← hwp]; exact z9
                have y1p : wp.cell? ⟨w9.heap.size, k, none⟩ = some (.bool true) := by rw [← hwp]; exact y1q
                have y2p : wp.cell? ⟨w9.heap.size + 1, k, none⟩ = some (.int .i64 la) := by rw [← hwp]; exact y2q
                have lw : wr.heap.size < wp.heap.size := World.block_lt_of_cell? wp _ x0
                have lw1 : w9.heap.size < wp.heap.size := by omega
                have lw2 : w9.heap.size + 1 < wp.heap.size := by omega
                clear hwp z0 z1 z2 z3 z4 z5 z6 z7 z8 z9 y1q y2q lz nz
                go_wp2
                generalize hwy : wp.alloc (Obj.cells #[.int .i64 0, .int .i64 0, .bool false, .int .i64 0, .int .i64 0, .bool false] 66) = wy
                have hby : Below wr.heap.size wr wy := by rw [← hwy]; exact hbp.alloc (by omega) _
                have v0 : wy.cell? ⟨wp.heap.size, 0, none⟩ = some (.int .i64 0) := by rw [← hwy]; simp [go_sem]
                have v1 : wy.cell? ⟨wp.heap.size, 1, none⟩ = some (.int .i64 0) := by rw [← hwy]; simp [go_sem]
                have v2 : wy.cell? ⟨wp.heap.size, 2, none⟩ = some (.bool false) := by rw [← hwy]; simp [go_sem]
                have v3 : wy.cell? ⟨wp.heap.size, 3, none⟩ = some (.int .i64 0) := by rw [← hwy]; simp [go_sem]
                have v4 : wy.cell? ⟨wp.heap.size, 4, none⟩ = some (.int .i64 0) := by rw [← hwy]; simp [go_sem]
                have v5 : wy.cell? ⟨wp.heap.size, 5, none⟩ = some (.bool false) := by rw [← hwy]; simp [go_sem]
                clear hwy x0 x1 x2 x3 x4 x5 x6 x7 x8 x9 y1p y2p
                have hry := hrk.below hby
                have lwy : wp.heap.size < wy.heap.size := World.block_lt_of_cell? wy _ v0
                go_region_held3 (fun w' => w'.cell? ⟨wp.heap.size, 0, none⟩ = some (.int .i64 0) ∧ w'.cell? ⟨wp.heap.size, 1, none⟩ = some (.int .i64 0) ∧ w'.cell? ⟨wp.heap.size, 2, none⟩ = some (.bool false) ∧ w'.cell? ⟨wp.heap.size, 3, none⟩ = some (.int .i64 0) ∧ w'.cell? ⟨wp.heap.size, 4, none⟩ = some (.int .i64 0) ∧ w'.cell? ⟨wp.heap.size, 5, none⟩ = some (.bool false) ∧ Below wy.heap.size wy w')
                  (first | exact ⟨v0, v1, v2, v3, v4, v5, (Below.refl _ _).drew⟩ | exact ⟨(hb8.cell (p := ⟨wp.heap.size, 0, none⟩) lwy).trans v0, (hb8.cell (p := ⟨wp.heap.size, 1, none⟩) lwy).trans v1, (hb8.cell (p := ⟨wp.heap.size, 2, none⟩) lwy).trans v2, (hb8.cell (p := ⟨wp.heap.size, 3, none⟩) lwy).trans v3, (hb8.cell (p := ⟨wp.heap.size, 4, none⟩) lwy).trans v4, (hb8.cell (p := ⟨wp.heap.size, 5, none⟩) lwy).trans v5, (Below.refl _ _).drew.trans hb8⟩)
                  (first | (go_at_call 61; refine (latOf_any (aa k) ⟨ByteArray.empty, .slice none 0 0, .slice none 0 0, cl, true, false, ⟨0, 0, false, 0, 0, false⟩, h⟩ _ ?_).mono ?_; (exact hry.drew); rintro e w8 ⟨rfl, hb8⟩) | (go_at_call 62; refine (heard_any (aa k) ⟨ByteArray.empty, .slice none 0 0, .slice none 0 0, cl, true, false, ⟨0, 0, false, 0, 0, false⟩, h⟩ _ ?_).mono ?_; (exact hry.drew.below hb8); rintro e w7 ⟨rfl, hw7⟩; subst hw7))
                go_wp2
                go_roundw
                case rel => exact ⟨k + 1, by omega, by go_num, hny.trans ((hby.trans (((Below.refl wy.heap.size wy).drew.trans hb8).mono hby.size)).mono hny.size)⟩
                case measure => simp [intOf]; omega
              · have hrk : Blk wr (aa k) (Rec.cells ⟨ByteArray.empty, .slice none 0 0, .slice none 0 0, cl, true, true, ⟨0, 0, false, 0, 0, false⟩, la⟩) 99 := hrk
                go_wp2
                go_quiet (first | (go_at_call 21; exact Calls.quiet_of_same (clashes_any (aa k) ⟨ByteArray.empty, .slice none 0 0, .slice none 0 0, cl, true, true, ⟨0, 0, false, 0, 0, false⟩, la⟩ _ (hrk.alloc _))) | (go_at_call 60; exact Calls.quiet_of_same (everyw_any (aa k) ⟨ByteArray.empty, .slice none 0 0, .slice none 0 0, cl, true, true, ⟨0, 0, false, 0, 0, false⟩, la⟩ _ (hrk.alloc _))))
                generalize hwq : World.drewN (wr.alloc (Obj.cells #[Value.bool cl, .bool true, .bool true, .int .i64 lat.l0, .int .i64 lat.l1, .bool lat.la, .int .i64 lat.f0, .int .i64 lat.f1, .bool lat.fa, .int .i64 h] 70)) nq = wq
                have hbq : Below wr.heap.size wr wq := by rw [← hwq]; exact below_drewN ((Below.refl _ _).alloc (Nat.le_refl _) _) nq
                have z0 : wq.cell? ⟨wr.heap.size, 0, none⟩ = some (.bool cl) := by rw [← hwq]; simp [go_sem]
                have z1 : wq.cell? ⟨wr.heap.size, 1, none⟩ = some (.bool true) := by rw [← hwq]; simp [go_sem]
                have z2 : wq.cell? ⟨wr.heap.size, 2, none⟩ = some (.bool true) := by rw [← hwq]; simp [go_sem]
                have z3 : wq.cell? ⟨wr.heap.size, 3, none⟩ = some (.int .i64 lat.l0) := by rw [← hwq]; simp [go_sem]
                have z4 : wq.cell? ⟨wr.heap.size, 4, none⟩ = some (.int .i64 lat.l1) := by rw [← hwq]; simp [go_sem]
                have z5 : wq.cell? ⟨wr.heap.size, 5, none⟩ = some (.bool lat.la) := by rw [← hwq]; simp [go_sem]
                have z6 : wq.cell? ⟨wr.heap.size, 6, none⟩ = some (.int .i64 lat.f0) := by rw [← hwq]; simp [go_sem]
                have z7 : wq.cell? ⟨wr.heap.size, 7, none⟩ = some (.int .i64 lat.f1) := by rw [← hwq]; simp [go_sem]
                have z8 : wq.cell? ⟨wr.heap.size, 8, none⟩ = some (.bool lat.fa) := by rw [← hwq]; simp [go_sem]
                have z9 : wq.cell? ⟨wr.heap.size, 9, none⟩ = some (.int .i64 h) := by rw [← hwq]; simp [go_sem]
                clear hwq
                have hrq := hrk.below hbq
                have y1q := (hbq.cell (p := ⟨w9.heap.size, k, none⟩) lg1).trans y1
                have y2q := (hbq.cell (p := ⟨w9.heap.size + 1, k, none⟩) lg2).trans y2
                have lz := World.block_lt_of_cell? wq _ z0
                have nz : ¬ wr.heap.size = wq.heap.size := by dsimp only at lz; omega
                clear y1 y2 p1 t0 t1 t2 t3 t4 t5 t6 t7 t8 t9
                go_wp2
                go_quiet ((go_at_call 59; exact Calls.quiet_of_same (decided_any (aa k) ⟨ByteArray.empty, .slice none 0 0, .slice none 0 0, cl, true, true, ⟨0, 0, false, 0, 0, false⟩, la⟩ _ hrq)))
                generalize hwp : World.drewN wq nq = wp
                have hbp : Below wr.heap.size wr wp := by rw [← hwp]; exact below_drewN hbq nq
                have x0 : wp.cell? ⟨wr.heap.size, 0, none⟩ = some (.bool cl) := by rw [← hwp]; exact z0
                have x1 : wp.cell? ⟨wr.heap.size, 1, none⟩ = some (.bool true) := by rw [← hwp]; exact z1
                have x2 : wp.cell? ⟨wr.heap.size, 2, none⟩ = some (.bool true) := by rw [← hwp]; exact z2
                have x3 : wp.cell? ⟨wr.heap.size, 3, none⟩ = some (.int .i64 lat.l0) := by rw [← hwp]; exact z3
                have x4 : wp.cell? ⟨wr.heap.size, 4, none⟩ = some (.int .i64 lat.l1) := by rw [← hwp]; exact z4
                have x5 : wp.cell? ⟨wr.heap.size, 5, none⟩ = some (.bool lat.la) := by rw [← hwp]; exact z5
                have x6 : wp.cell? ⟨wr.heap.size, 6, none⟩ = some (.int .i64 lat.f0) := by rw [← hwp]; exact z6
                have x7 : wp.cell? ⟨wr.heap.size, 7, none⟩ = some (.int .i64 lat.f1) := by rw [← hwp]; exact z7
                have x8 : wp.cell? ⟨wr.heap.size, 8, none⟩ = some (.bool lat.fa) := by rw [← hwp]; exact z8
                have x9 : wp.cell? ⟨wr.heap.size, 9, none⟩ = some (.int .i64 h) := by rw [← hwp]; exact z9
                have y1p : wp.cell? ⟨w9.heap.size, k, none⟩ = some (.bool true) := by rw [← hwp]; exact y1q
                have y2p : wp.cell? ⟨w9.heap.size + 1, k, none⟩ = some (.int .i64 la) := by rw [← hwp]; exact y2q
                have lw : wr.heap.size < wp.heap.size := World.block_lt_of_cell? wp _ x0
                have lw1 : w9.heap.size < wp.heap.size := by omega
                have lw2 : w9.heap.size + 1 < wp.heap.size := by omega
                clear hwp z0 z1 z2 z3 z4 z5 z6 z7 z8 z9 y1q y2q lz nz
                go_wp2
                generalize hwy : wp.alloc (Obj.cells #[.int .i64 0, .int .i64 0, .bool false, .int .i64 0, .int .i64 0, .bool false] 66) = wy
                have hby : Below wr.heap.size wr wy := by rw [← hwy]; exact hbp.alloc (by omega) _
                have v0 : wy.cell? ⟨wp.heap.size, 0, none⟩ = some (.int .i64 0) := by rw [← hwy]; simp [go_sem]
                have v1 : wy.cell? ⟨wp.heap.size, 1, none⟩ = some (.int .i64 0) := by rw [← hwy]; simp [go_sem]
                have v2 : wy.cell? ⟨wp.heap.size, 2, none⟩ = some (.bool false) := by rw [← hwy]; simp [go_sem]
                have v3 : wy.cell? ⟨wp.heap.size, 3, none⟩ = some (.int .i64 0) := by rw [← hwy]; simp [go_sem]
                have v4 : wy.cell? ⟨wp.heap.size, 4, none⟩ = some (.int .i64 0) := by rw [← hwy]; simp [go_sem]
                have v5 : wy.cell? ⟨wp.heap.size, 5, none⟩ = some (.bool false) := by rw [← hwy]; simp [go_sem]
                clear hwy x0 x1 x2 x3 x4 x5 x6 x7 x8 x9 y1p y2p
                have hry := hrk.below hby
                have lwy : wp.heap.size < wy.heap.size := World.block_lt_of_cell? wy _ v0
                go_region_held3 (fun w' => w'.cell? ⟨wp.heap.size, 0, none⟩ = some (.int .i64 0) ∧ w'.cell? ⟨wp.heap.size, 1, none⟩ = some (.int .i64 0) ∧ w'.cell? ⟨wp.heap.size, 2, none⟩ = some (.bool false) ∧ w'.cell? ⟨wp.heap.size, 3, none⟩ = some (.int .i64 0) ∧ w'.cell? ⟨wp.heap.size, 4, none⟩ = some (.int .i64 0) ∧ w'.cell? ⟨wp.heap.size, 5, none⟩ = some (.bool false) ∧ Below wy.heap.size wy w')
                  (first | exact ⟨v0, v1, v2, v3, v4, v5, (Below.refl _ _).drew⟩ | exact ⟨(hb8.cell (p := ⟨wp.heap.size, 0, none⟩) lwy).trans v0, (hb8.cell (p := ⟨wp.heap.size, 1, none⟩) lwy).trans v1, (hb8.cell (p := ⟨wp.heap.size, 2, none⟩) lwy).trans v2, (hb8.cell (p := ⟨wp.heap.size, 3, none⟩) lwy).trans v3, (hb8.cell (p := ⟨wp.heap.size, 4, none⟩) lwy).trans v4, (hb8.cell (p := ⟨wp.heap.size, 5, none⟩) lwy).trans v5, (Below.refl _ _).drew.trans hb8⟩)
                  (first | (go_at_call 61; refine (latOf_any (aa k) ⟨ByteArray.empty, .slice none 0 0, .slice none 0 0, cl, true, true, ⟨0, 0, false, 0, 0, false⟩, la⟩ _ ?_).mono ?_; (exact hry.drew); rintro e w8 ⟨rfl, hb8⟩) | (go_at_call 62; refine (heard_any (aa k) ⟨ByteArray.empty, .slice none 0 0, .slice none 0 0, cl, true, true, ⟨0, 0, false, 0, 0, false⟩, la⟩ _ ?_).mono ?_; (exact hry.drew.below hb8); rintro e w7 ⟨rfl, hw7⟩; subst hw7))
                go_wp2
                go_roundw
                case rel => exact ⟨k + 1, by omega, by go_num, hny.trans ((hby.trans (((Below.refl wy.heap.size wy).drew.trans hb8).mono hby.size)).mono hny.size)⟩
                case measure => simp [intOf]; omega
        · go_wp2
          go_ret
          exact ⟨rfl, hB1.trans ((hnx.trans (hny.mono hnx.size)).mono hB1.size)⟩

end Go.Proofs.Qxb6619458a
