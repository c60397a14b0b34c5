import Derived.Test.Qxb6619458aSteps
import Derived.Test.Qxb6619458aRunOK
namespace Go.Proofs.Qxb6619458a
open Go.RowKit
attribute [local go_sem ↓] Go.wp_at_zero Go.wp_at_succ

set_option maxRecDepth 100000 in
set_option maxHeartbeats 40000000 in
theorem rotate_any (fm x : Int) (free : Lat) (a a2 : Option Addr) (n c1 m c2 : Nat) (D : Nat → DR) (q : Nat → Int × Int) (w : World) (hn0 : n ≤ 9223372036854775807) (hm0 : m ≤ 9223372036854775807)
    (hD : IsD w a n D) (hS : IsS w a2 m q) :
    Calls Try.prog 7 #[.int .i64 fm, .agg free.cells, .slice a n c1, .slice a2 m c2, .int .i64 x] w fun e w' => e = .returned (.bool true) ∧ Below w.heap.size w w' := by
  obtain ⟨wz, hwz⟩ : ∃ wz, wz = w.alloc (.cells free.cells 66) := ⟨_, rfl⟩
  have hB : Below w.heap.size w wz := by rw [hwz]; exact (Below.refl _ _).alloc (Nat.le_refl _) _
  have hbz : Blk wz w.heap.size free.cells 66 := by rw [hwz]; exact Blk.new _ _ _
  have zz1 := hbz.lt
  have q0 : wz.cell? ⟨w.heap.size, 0, none⟩ = some (.int .i64 free.l0) := hbz.cell rfl
  have q1 : wz.cell? ⟨w.heap.size, 1, none⟩ = some (.int .i64 free.l1) := hbz.cell rfl
  have q2 : wz.cell? ⟨w.heap.size, 2, none⟩ = some (.bool free.la) := hbz.cell rfl
  have q3 : wz.cell? ⟨w.heap.size, 3, none⟩ = some (.int .i64 free.f0) := hbz.cell rfl
  have q4 : wz.cell? ⟨w.heap.size, 4, none⟩ = some (.int .i64 free.f1) := hbz.cell rfl
  have q5 : wz.cell? ⟨w.heap.size, 5, none⟩ = some (.bool free.fa) := hbz.cell rfl
  unfold Lat.cells at hwz ⊢
  go_enter Try.func7, Try.ntmps7
  go_wp2_with fail
  rw [← hwz]
  clear hwz
  refine (bytes42_any fm x free a a2 n c1 m c2 wz hn0 hm0).mono ?_
  rintro e w0 ⟨⟨t, rfl, _⟩, hb0⟩
  have H0 : Below w.heap.size w w0 := hB.trans (hb0.mono (by omega))
  cases t
  · go_wp2
    go_ret
    exact ⟨rfl, H0⟩
  by_cases hn : n ≤ 65536 ∧ m ≤ 65536
  case neg =>
    have h2 : 65536 < n ∨ (n ≤ 65536 ∧ 65536 < m) := by omega
    clear hn
    rcases h2 with h2 | ⟨h2, h3⟩
    · go_wp2
      go_ret
      exact ⟨rfl, H0⟩
    · go_wp2
      go_ret
      exact ⟨rfl, H0⟩
  case pos =>
    obtain ⟨hn, hm⟩ := hn
    have hS0 := hS.below H0
    go_wp2_with fail
    refine (fits_any a a2 n c1 m c2 x q w0 hn0 hm0 hS0).mono ?_
    rintro e w1 ⟨⟨t, rfl, hfit⟩, hw1⟩
    subst hw1
    cases t
    · go_wp2
      go_ret
      exact ⟨rfl, H0⟩
    obtain ⟨Y1, Y2, hx0, hx1, hq⟩ := hfit rfl
    clear Y1 Y2
    clear hfit
    obtain ⟨c, rfl⟩ : ∃ c : Nat, x = (c : Int) := ⟨x.toNat, by omega⟩
    have hc : c ≤ m := by omega
    obtain ⟨sc, hsc⟩ : ∃ sc : Nat → Nat × Int, sc = fun j => ((q j).1.toNat, (q j).2) := ⟨_, rfl⟩
    have HSC : Hid (∀ j, j < m → (sc j).1 < n) := fun j hj => by rw [hsc]; have := hq j hj; show (q j).1.toNat < n; omega
    have hS1 : IsS w a2 m (fun j => (((sc j).1 : Int), (sc j).2)) := by
      rcases hS with h | ⟨b, off, ha, hl, hat⟩
      · exact .inl h
      · refine .inr ⟨b, off, ha, hl, fun j hj => ?_, fun j hj => ?_⟩
        · rw [hat.c0 j hj, hsc]
          have := hq j hj
          show some (Value.int .i64 (q j).1) = some (.int .i64 (((q j).1.toNat : Nat) : Int))
          rw [Int.toNat_of_nonneg this.1]
        · rw [hat.c1 j hj, hsc]
    clear hsc hq hS hS0 q
    have p0 := (hb0.cell (p := ⟨w.heap.size, 0, none⟩) zz1).trans q0
    have p1 := (hb0.cell (p := ⟨w.heap.size, 1, none⟩) zz1).trans q1
    have p2 := (hb0.cell (p := ⟨w.heap.size, 2, none⟩) zz1).trans q2
    have p3 := (hb0.cell (p := ⟨w.heap.size, 3, none⟩) zz1).trans q3
    have p4 := (hb0.cell (p := ⟨w.heap.size, 4, none⟩) zz1).trans q4
    have p5 := (hb0.cell (p := ⟨w.heap.size, 5, none⟩) zz1).trans q5
    have hbx := hbz.below hb0
    have lx := hbx.lt
    clear q0 q1 q2 q3 q4 q5 hbz hB hb0 zz1
    go_wp2
    have G0 : Blk (w1.alloc (.cells free.cells 66)) w1.heap.size free.cells 66 := Blk.new _ _ _
    have G1 : Below w1.heap.size w1 (w1.alloc (.cells free.cells 66)) := (Below.refl _ _).alloc (Nat.le_refl _) _
    go_loopw [11, 13] (fun wm i wr => ∃ j : Nat, j ≤ m ∧ i = .int .i64 j ∧ wm = .int .i64 (MJ D sc fm j) ∧ Blk wr w1.heap.size (FJ D sc free j).cells 66 ∧ Below w1.heap.size w1 wr) (fun _ i _ => m - (intOf i).toNat)
    case atStart => exact ⟨0, Nat.zero_le _, rfl, rfl, G0, G1⟩
    case round =>
      clear G0 G1 p0 p1 p2 p3 p4 p5
      obtain ⟨j, hj, rfl, rfl, hF, hnx⟩ := hrel
      by_cases hlt : j < m
      · have Hr := chain H0 hnx
        have zr := hnx.size
        have lF := hF.lt
        have zH := H0.size
        obtain ⟨k, t, hkt⟩ : ∃ k t, sc j = (k, t) := ⟨_, _, rfl⟩
        have hkn : k < n := by have := HSC.out _ hlt; rw [hkt] at this; exact this
        have HM : Hid (MJ D sc fm (j + 1) = if (D k).cl then MJ D sc fm j else wrap64 (MJ D sc fm j + 1)) := by
          show gM D (MJ D sc fm j) (sc j) = _
          rw [hkt]; rfl
        have HF : Hid (FJ D sc free (j + 1) = if (D k).cl then FJ D sc free j else hullL (FJ D sc free j) (D k).lat) := by
          show gF D (FJ D sc free j) (sc j) = _
          rw [hkt]; rfl
        rcases hS1 with h0 | ⟨b2, o2, ha2, hb2, hat2'⟩
        · exfalso; omega
        rcases hD with h0 | ⟨b, off, ha, hb, hat'⟩
        · exfalso; omega
        have hat2 := hat2'.eq (Hr.block b2 hb2)
        have hat := hat'.eq (Hr.block b hb)
        subst ha2
        subst ha
        have s0 := hat2.c0 j hlt
        rw [hkt] at s0
        dsimp only at s0
        have t0 := hat.c0 k hkn
        have t1 := hat.c1 k hkn
        have t2 := hat.c2 k hkn
        have t3 := hat.c3 k hkn
        have t4 := hat.c4 k hkn
        have t5 := hat.c5 k hkn
        have t6 := hat.c6 k hkn
        have t7 := hat.c7 k hkn
        have t8 := hat.c8 k hkn
        have t9 := hat.c9 k hkn
        have f0 : wr.cell? ⟨w1.heap.size, 0, none⟩ = some (.int .i64 (FJ D sc free j).l0) := hF.cell rfl
        have f1 : wr.cell? ⟨w1.heap.size, 1, none⟩ = some (.int .i64 (FJ D sc free j).l1) := hF.cell rfl
        have f2 : wr.cell? ⟨w1.heap.size, 2, none⟩ = some (.bool (FJ D sc free j).la) := hF.cell rfl
        have f3 : wr.cell? ⟨w1.heap.size, 3, none⟩ = some (.int .i64 (FJ D sc free j).f0) := hF.cell rfl
        have f4 : wr.cell? ⟨w1.heap.size, 4, none⟩ = some (.int .i64 (FJ D sc free j).f1) := hF.cell rfl
        have f5 : wr.cell? ⟨w1.heap.size, 5, none⟩ = some (.bool (FJ D sc free j).fa) := hF.cell rfl
        have hkI : (0 : Int) ≤ (k : Int) := by omega
        have hkJ : (k : Int) < (n : Int) := by omega
        clear hat hat2 hat' hat2' hkt
        cases hcl : (D k).cl
        · rw [hcl] at t0
          have HM2 : Hid (MJ D sc fm (j + 1) = wrap64 (MJ D sc fm j + 1)) := by rw [HM.out, hcl]; rfl
          have HF2 : Hid (FJ D sc free (j + 1) = hullL (FJ D sc free j) (D k).lat) := by rw [HF.out, hcl]; rfl
          clear hcl HM HF
          go_wp2_with fail
          refine (hullL_any (FJ D sc free j) (D k).lat _).mono ?_
          rintro e w2 ⟨rfl, hb2'⟩
          have hw2 : Below wr.heap.size wr w2 := ((Below.refl wr.heap.size wr).alloc (Nat.le_refl _) _).trans (hb2'.mono (by simp))
          have hF2 := hF.below hw2
          have P6 := put6 (hullL (FJ D sc free j) (D k).lat) hF2
          have g0 : w2.cell? ⟨w1.heap.size, 0, none⟩ = some (.int .i64 (FJ D sc free j).l0) := hF2.cell rfl
          have g1 : w2.cell? ⟨w1.heap.size, 1, none⟩ = some (.int .i64 (FJ D sc free j).l1) := hF2.cell rfl
          have g2 : w2.cell? ⟨w1.heap.size, 2, none⟩ = some (.bool (FJ D sc free j).la) := hF2.cell rfl
          have g3 : w2.cell? ⟨w1.heap.size, 3, none⟩ = some (.int .i64 (FJ D sc free j).f0) := hF2.cell rfl
          have g4 : w2.cell? ⟨w1.heap.size, 4, none⟩ = some (.int .i64 (FJ D sc free j).f1) := hF2.cell rfl
          have g5 : w2.cell? ⟨w1.heap.size, 5, none⟩ = some (.bool (FJ D sc free j).fa) := hF2.cell rfl
          have gf := hF2.frozen
          clear f0 f1 f2 f3 f4 f5 t0 t1 t2 t3 t4 t5 t6 t7 t8 t9 s0 hb2'
          unfold Lat.cells
          go_wp2
          go_roundw
          case rel =>
            refine ⟨j + 1, by omega, by go_num, by rw [HM2.out], ?_, ?_⟩
            · rw [HF2.out]; exact P6.1
            · exact Fr.toBelow (hnx.trans (hw2.mono zr)) P6.2 (fun i hi => by omega)
          case measure => simp [intOf]; omega
        · rw [hcl] at t0
          have HM2 : Hid (MJ D sc fm (j + 1) = MJ D sc fm j) := by rw [HM.out, hcl]; rfl
          have HF2 : Hid (FJ D sc free (j + 1) = FJ D sc free j) := by rw [HF.out, hcl]; rfl
          clear hcl HM HF
          go_wp2
          go_roundw
          case rel => exact ⟨j + 1, by omega, by go_num, by rw [HM2.out], by rw [HF2.out]; exact hF.alloc _, hnx.alloc zr _⟩
          case measure => simp [intOf]; omega
      · have ejm : m = j := by omega
        subst ejm
        have hmk := run_make_row' (P := Try.prog) 30 40 (.pointer none) 8 Try.underlying30 (by kernel_rfl) rfl .i64 .i64 n (by omega) (by omega)
        obtain ⟨w2, rfl⟩ : ∃ w2 : World, w2 = wr := ⟨_, rfl⟩
        have z2 := hnx.size
        have lF := hF.lt
        have H2 := chain H0 hnx
        have hbx2 := hbx.below hnx
        go_wp2
        clear hmk
        go_loopw [17] (fun i wr => ∃ (k : Nat) (fa fb : Nat → Nat), k ≤ n ∧ i = .int .i64 k ∧ Mk w2 wr k n fa fb D) (fun i _ => n - (intOf i).toNat)
        case atStart => exact ⟨0, fun _ => 0, fun _ => 0, Nat.zero_le _, rfl, mk_start w2 n _ _ D⟩
        case round =>
          obtain ⟨k, fa, fb, hk, rfl, hMk⟩ := hrel
          by_cases hlt2 : k < n
          · have hbe := hMk.be
            have zb := hbe.size
            have zH := H2.size
            have Hr := chain H2 hbe
            have la := hMk.pa.lt
            have lb := hMk.pb.lt
            rcases hD with h0 | ⟨b, off, ha, hb, hat'⟩
            · exfalso; omega
            have hat := hat'.eq (Hr.block b hb)
            subst ha
            have t0 := hat.c0 k hlt2
            have t1 := hat.c1 k hlt2
            have t2 := hat.c2 k hlt2
            have t3 := hat.c3 k hlt2
            have t4 := hat.c4 k hlt2
            have t5 := hat.c5 k hlt2
            have t6 := hat.c6 k hlt2
            have t7 := hat.c7 k hlt2
            have t8 := hat.c8 k hlt2
            have t9 := hat.c9 k hlt2
            have hkI : (0 : Int) ≤ (k : Int) := by omega
            have hkJ : (k : Int) < (n : Int) := by omega
            clear hat
            go_wp2_with fail
            refine (newD_two ByteArray.empty (D k) wr).mono ?_
            rintro e wa ⟨ga, rfl, g1, r1, b1⟩
            have za := b1.size
            have hpa := (hMk.pa.of_block (b1.block _ la))
            have x1 := hpa.cell hlt2
            have x2 := hpa.frozen k
            have hat := hat'.eq ((chain Hr b1).block b hb)
            have u0 := hat.c0 k hlt2
            have u1 := hat.c1 k hlt2
            have u2 := hat.c2 k hlt2
            have u3 := hat.c3 k hlt2
            have u4 := hat.c4 k hlt2
            have u5 := hat.c5 k hlt2
            have u6 := hat.c6 k hlt2
            have u7 := hat.c7 k hlt2
            have u8 := hat.c8 k hlt2
            have u9 := hat.c9 k hlt2
            have nb : ¬ b = w2.heap.size := by omega
            clear hat t0 t1 t2 t3 t4 t5 t6 t7 t8 t9 hpa
            go_wp2_with fail
            refine (newD_two ByteArray.empty (D k) _).mono ?_
            rintro e wb ⟨gb, rfl, g2, r2, b2⟩
            have g2' : wa.heap.size ≤ gb := by simpa using g2
            have b2' : Below wa.heap.size (wa.setCell ⟨w2.heap.size, k, none⟩ (.pointer (some ⟨ga, 0, none⟩))) wb := by simpa using b2
            have zb2 := b2'.size
            have hpb := ((hMk.pb.of_block (b1.block _ lb)).setOther (a := ⟨w2.heap.size, k, none⟩) (by simp) (.pointer (some ⟨ga, 0, none⟩))).of_block (b2'.block _ (by omega))
            have x3 := hpb.cell hlt2
            have x4 := hpb.frozen k
            have hST := mk_step hMk hlt2 g1 r1 b1 g2' r2 b2'
            clear u0 u1 u2 u3 u4 u5 u6 u7 u8 u9 x1 x2 hpb b2 g2
            go_wp2
            go_roundw
            case rel => exact ⟨k + 1, _, _, by omega, by go_num, hST⟩
            case measure => simp [intOf]; omega
          · have ekn : n = k := by omega
            subst ekn
            obtain ⟨w3, rfl⟩ : ∃ w3 : World, w3 = wr := ⟨_, rfl⟩
            have hbe := hMk.be
            have z3 := hbe.size
            have H3 := chain H2 hbe
            have hbx3 := hbx2.below hbe
            have p0 : w3.cell? ⟨w.heap.size, 0, none⟩ = some (.int .i64 free.l0) := hbx3.cell rfl
            have p1 : w3.cell? ⟨w.heap.size, 1, none⟩ = some (.int .i64 free.l1) := hbx3.cell rfl
            have p2 : w3.cell? ⟨w.heap.size, 2, none⟩ = some (.bool free.la) := hbx3.cell rfl
            have p3 : w3.cell? ⟨w.heap.size, 3, none⟩ = some (.int .i64 free.f0) := hbx3.cell rfl
            have p4 : w3.cell? ⟨w.heap.size, 4, none⟩ = some (.int .i64 free.f1) := hbx3.cell rfl
            have p5 : w3.cell? ⟨w.heap.size, 5, none⟩ = some (.bool free.fa) := hbx3.cell rfl
            go_wp2_with fail
            refine (newDS_two 0 0 fm free w3).mono ?_
            rintro e w4 ⟨sA, xA, yA, rfl, gA, rA, b4⟩
            have z4 := b4.size
            have lA := rA.lt
            have hbx4 := hbx3.below b4
            have q0 : w4.cell? ⟨w.heap.size, 0, none⟩ = some (.int .i64 free.l0) := hbx4.cell rfl
            have q1 : w4.cell? ⟨w.heap.size, 1, none⟩ = some (.int .i64 free.l1) := hbx4.cell rfl
            have q2 : w4.cell? ⟨w.heap.size, 2, none⟩ = some (.bool free.la) := hbx4.cell rfl
            have q3 : w4.cell? ⟨w.heap.size, 3, none⟩ = some (.int .i64 free.f0) := hbx4.cell rfl
            have q4 : w4.cell? ⟨w.heap.size, 4, none⟩ = some (.int .i64 free.f1) := hbx4.cell rfl
            have q5 : w4.cell? ⟨w.heap.size, 5, none⟩ = some (.bool free.fa) := hbx4.cell rfl
            clear p0 p1 p2 p3 p4 p5
            go_wp2_with fail
            refine (newDS_two 0 0 fm free w4).mono ?_
            rintro e w5 ⟨sB, xB, yB, rfl, gB, rB, b5⟩
            have z5 := b5.size
            have lB := rB.lt
            clear q0 q1 q2 q3 q4 q5 hbx4 hbx3 hbx2 hbx
            have b35 := chain b4 b5
            have H5 := chain H3 b35
            have HpA : w5.rowIs w2.heap.size 40 n (fun i => .pointer (some ⟨fa i, 0, none⟩)) := (hMk.pa.of_block (b35.block _ hMk.pa.lt)).congr (fun i hi => by simp [hi])
            have HpB : w5.rowIs (w2.heap.size + 1) 40 n (fun i => .pointer (some ⟨fb i, 0, none⟩)) := (hMk.pb.of_block (b35.block _ hMk.pb.lt)).congr (fun i hi => by simp [hi])
            have la2 := hMk.pa.lt
            have lb2 := hMk.pb.lt
            have HrA : ∀ i, i < n → Blk w5 (fa i) ((D i).toRec ByteArray.empty).cells 99 := fun i hi => (hMk.ra i hi).below b35
            have HrB : ∀ i, i < n → Blk w5 (fb i) ((D i).toRec ByteArray.empty).cells 99 := fun i hi => (hMk.rb i hi).below b35
            have HlA : ∀ i, i < n → fa i < w3.heap.size := fun i hi => (hMk.ra i hi).lt
            have HlB : ∀ i, i < n → fb i < w3.heap.size := fun i hi => (hMk.rb i hi).lt
            have HgA := hMk.ga
            have HgB := hMk.gb
            have Hia := hMk.ia
            have Hib := hMk.ib
            have Hne := hMk.ne
            have hF5 : Blk w5 w1.heap.size (FJ D sc free m).cells 66 := (hF.below hbe).below b35
            have rA5 := rA.below b5
            have HALL : Hid ((∀ i, i < n → Blk w5 (fa i) ((D i).toRec ByteArray.empty).cells 99) ∧ (∀ i, i < n → Blk w5 (fb i) ((D i).toRec ByteArray.empty).cells 99) ∧ (∀ i, i < n → fa i < w3.heap.size) ∧ (∀ i, i < n → fb i < w3.heap.size) ∧ (∀ i, i < n → w2.heap.size + 2 ≤ fa i) ∧ (∀ i, i < n → w2.heap.size + 2 ≤ fb i) ∧ (∀ i j, i < n → j < n → fa i = fa j → i = j) ∧ (∀ i j, i < n → j < n → fb i = fb j → i = j) ∧ (∀ i j, i < n → j < n → fa i ≠ fb j)) :=
              ⟨HrA, HrB, HlA, HlB, HgA, HgB, Hia, Hib, Hne⟩
            clear HrA HrB HlA HlB HgA HgB Hia Hib Hne hMk rA hF hnx hbe b4 b5 b35 H0 H2 H3
            go_wp2
            go_loopw [20] (fun i wr => ∃ (j : Nat) (v : Value), j ≤ m ∧ i = .int .i64 j ∧ Lp w5 wr sA n j fa (newS 0 0 fm free xA yA) D (stR sc 0 m) v) (fun i _ => m - (intOf i).toNat)
            case atStart =>
              refine ⟨0, .slice none 0 0, Nat.zero_le _, rfl, rA5, fun k hk => ?_, World.ownsRow_nil _ _ _ _, Fr.refl _ _⟩
              rw [RJ_zero]; exact HALL.out.1 k hk
            case round =>
              obtain ⟨j, v, hj, rfl, hL⟩ := hrel
              by_cases hlt3 : j < m
              · have hrt := rt_lt 0 m j (by omega) hlt3
                obtain ⟨k, t, hkt⟩ : ∃ k t, sc (rt 0 m j) = (k, t) := ⟨_, _, rfl⟩
                have hkn : k < n := by have := HSC.out _ hrt; rw [hkt] at this; exact this
                have HST : Hid (stR sc 0 m j = (k, t)) := hkt
                obtain ⟨X1, X2, HlAx, HlBx, HgAx, HgBx, Hiax, Hibx, X3⟩ := HALL.out
                have HlF : ∀ i, i < n → fa i < w3.heap.size := HlAx
                have HgF : ∀ i, i < n → w2.heap.size + 2 ≤ fa i := HgAx
                have HiF : ∀ i j, i < n → j < n → fa i = fa j → i = j := Hiax
                clear HlAx HlBx HgAx HgBx Hiax Hibx X1 X2 X3
                have kA := HlF k hkn
                have kG := HgF k hkn
                have HsF : ∀ i, i < n → sA ≠ fa i := fun i hi => by have := HlF i hi; omega
                have HlF5 : ∀ i, i < n → fa i < w5.heap.size := fun i hi => by have := HlF i hi; omega
                have HO : ∀ i, i < w3.heap.size → (∀ k, k < n → i ≠ fa k) → wr.heap[i]? = w5.heap[i]? := fun i hi hne => by
                  refine hL.fr.block i (by omega) ?_
                  rintro (q | ⟨k', hk', q⟩ | q)
                  · omega
                  · exact hne k' hk' q
                  · omega
                have zr := hL.fr.size
                have Hr : Below w.heap.size w wr := Fr.toBelow H5 hL.fr (fun i hi => by
                  have := H5.size
                  rintro (q | ⟨k', hk', q⟩ | q)
                  · omega
                  · have := HgF k' hk'; omega
                  · omega)
                have pA := (HpA.of_block (HO _ (by omega) (fun k' hk' => by have := HgF k' hk'; omega))).cell hkn
                rcases hS1 with h0 | ⟨b2, o2, ha2, hb2, hat2'⟩
                · exfalso; omega
                have hat2 := hat2'.eq (Hr.block b2 hb2)
                subst ha2
                have s0 := hat2.c0 (rt 0 m j) hrt
                have s1 := hat2.c1 (rt 0 m j) hrt
                rw [hkt] at s0 s1
                dsimp only at s0 s1
                have hEL := EJ_len fa D (stR sc 0 m) j
                have hkI : (0 : Int) ≤ (k : Int) := by omega
                have hkJ : (k : Int) < (n : Int) := by omega
                have lpA : w2.heap.size < wr.heap.size := by omega
                have hsl := hL.hs
                have hrl := hL.hr k hkn
                have hxl := hL.hx
                have HH : Hid (Lp w5 wr sA n j fa (newS 0 0 fm free xA yA) D (stR sc 0 m) v ∧ (∀ i j, i < n → j < n → fa i = fa j → i = j) ∧ (∀ i, i < n → sA ≠ fa i) ∧ (∀ i, i < n → fa i < w5.heap.size)) := ⟨hL, HiF, HsF, HlF5⟩
                have nsA : sA ≠ fa k := HsF k hkn
                have HNE : Hid (sA ≠ fa k) := nsA
                have N1 : Hid (¬ (wr.heap.size = sA ∨ wr.heap.size = fa k ∨ some wr.heap.size = v.ownBlock)) := by
                  rintro (q | q | q)
                  · omega
                  · omega
                  · have := (hxl.lt _ q.symm).2; omega
                have N2 : Hid (¬ (w2.heap.size = sA ∨ w2.heap.size = fa k ∨ some (w2.heap.size) = v.ownBlock)) := by
                  rintro (q | q | q)
                  · omega
                  · omega
                  · have := (hxl.lt _ q.symm).1; omega
                clear hat2 hat2' hkt HO hL HsF HlF5 HiF HlF HgF nsA
                rw [show rt 0 m j = j from by rw [rt, if_neg (by omega)]; omega] at s0 s1
                go_wp2
                generalize hwq : wr.alloc (Obj.cells #[Value.int IntKind.i64 ↑k, Value.int IntKind.i64 t] 82) = wq
                have hbq : Below wr.heap.size wr wq := by rw [← hwq]; exact (Below.refl _ _).alloc (Nat.le_refl _) _
                have m0 : wq.cell? ⟨wr.heap.size, 0, none⟩ = some (.int .i64 (k : Int)) := by rw [← hwq]; simp [go_sem]
                have m1 : wq.cell? ⟨wr.heap.size, 1, none⟩ = some (.int .i64 t) := by rw [← hwq]; simp [go_sem]
                have m2 := (hbq.cell (p := ⟨w2.heap.size, k, none⟩) lpA).trans pA
                have hsq := (hsl.below hbq).drew
                have hrq := (hrl.below hbq).drew
                have hxq : Ex wq.drew w5.heap.size v (EJ fa D (stR sc 0 m) j) := Ex.kept hxl (fun k _ hk2 => hbq.block k hk2)
                have zq := hbq.size
                have i1 : sA < w5.heap.size := by omega
                have i2 : fa k < w5.heap.size := by omega
                have i3 : w5.heap.size ≤ wq.drew.heap.size := by simp; omega
                have i4 : (EJ fa D (stR sc 0 m) j).length ≤ 1000000 := by omega
                clear hwq hsl hrl hxl
                go_region_held3 (fun w' => w'.cell? ⟨wr.heap.size, 0, none⟩ = some (.int .i64 (k : Int)) ∧ w'.cell? ⟨wr.heap.size, 1, none⟩ = some (.int .i64 t) ∧ w'.cell? ⟨w2.heap.size, k, none⟩ = some (.pointer (some ⟨fa k, 0, none⟩)))
                  (first | exact ⟨m0, m1, m2⟩ | exact ⟨Fr.cell (w := wq.drew) d4 m0 N1.out, Fr.cell (w := wq.drew) d4 m1 N1.out, Fr.cell (w := wq.drew) d4 m2 N2.out⟩)
                  (first | (go_at_call 39; refine (zzDecide_any sA (fa k) w5.heap.size (SJ (newS 0 0 fm free xA yA) D (stR sc 0 m) j v) (RJ D (stR sc 0 m) j k) (EJ fa D (stR sc 0 m) j) t _ hsq hrq HNE.out i1 i2 i3 hxq i4).mono ?_; rintro e w6 ⟨rfl, v', d1, d2, d3, d4⟩))
                have HST2 := lp_step HH.out.1 HST.out hkn HH.out.2.1 HH.out.2.2.1 HH.out.2.2.2 (by omega) (hbq.drew) d1 d2 d3 d4
                clear d1 d2 d3 d4 m0 m1 m2 s0 s1 pA
                go_wp2
                go_roundw
                case rel => exact ⟨j + 1, v', by omega, by go_num, HST2⟩
                case measure => simp [intOf]; omega
              · have ejm : m = j := by omega
                subst ejm
                obtain ⟨w6, rfl⟩ : ∃ w6 : World, w6 = wr := ⟨_, rfl⟩
                obtain ⟨vA, hvA⟩ : ∃ vA : Value, vA = v := ⟨_, rfl⟩
                subst hvA
                obtain ⟨X1, HrBx, HlAx, HlBx, HgAx, HgBx, X2, X3, Hnex⟩ := HALL.out
                have z6 := hL.fr.size
                have zH5 := H5.size
                have OA : ∀ i, i < w5.heap.size → i ≠ sA → (∀ k, k < n → i ≠ fa k) → w6.heap[i]? = w5.heap[i]? := fun i hi h1 h2 => by
                  refine hL.fr.block i hi ?_
                  rintro (q | ⟨k', hk', q⟩ | q)
                  · exact h1 q
                  · exact h2 k' hk' q
                  · omega
                have H6 : Below w.heap.size w w6 := Fr.toBelow H5 hL.fr (fun i hi => by
                  rintro (q | ⟨k', hk', q⟩ | q)
                  · omega
                  · have := HgAx k' hk'; omega
                  · omega)
                have rB6 : Blk w6 sB (newS 0 0 fm free xB yB).cells 96 := by
                  unfold Blk at rB ⊢
                  rw [OA sB lB (by omega) (fun k hk => by have := HlAx k hk; omega)]; exact rB
                have HrB6 : ∀ i, i < n → Blk w6 (fb i) ((D i).toRec ByteArray.empty).cells 99 := fun i hi => by
                  have h1 := HrBx i hi
                  have h2 := HlBx i hi
                  unfold Blk at h1 ⊢
                  rw [OA (fb i) (by omega) (by omega) (fun k hk e => Hnex k i hk hi e.symm)]; exact h1
                have HpB6 := HpB.of_block (OA (w2.heap.size + 1) (by omega) (by omega) (fun k hk => by have := HgAx k hk; omega))
                have HpA6 := HpA.of_block (OA w2.heap.size (by omega) (by omega) (fun k hk => by have := HgAx k hk; omega))
                have hF6 : Blk w6 w1.heap.size (FJ D sc free m).cells 66 := by
                  unfold Blk at hF5 ⊢
                  rw [OA w1.heap.size (by omega) (by omega) (fun k hk => by have := HgAx k hk; omega)]; exact hF5
                have HRB : Hid (∀ i, i < n → Blk w6 (fb i) ((D i).toRec ByteArray.empty).cells 99) := HrB6
                have HLA : Hid (Lp w5 w6 sA n m fa (newS 0 0 fm free xA yA) D (stR sc 0 m) vA) := hL
                clear HrB6 hL X1 X2 X3 OA HrBx HlAx HlBx HgAx HgBx Hnex rA5 rB HpA HpB hF5
                go_wp2
                go_loopw [22] (fun i wr => ∃ (j : Nat) (v : Value), j ≤ m ∧ i = .int .i64 j ∧ Lp w6 wr sB n j fb (newS 0 0 fm free xB yB) D (stR sc c m) v) (fun i _ => m - (intOf i).toNat)
                case atStart =>
                  refine ⟨0, .slice none 0 0, Nat.zero_le _, rfl, rB6, fun k hk => ?_, World.ownsRow_nil _ _ _ _, Fr.refl _ _⟩
                  rw [RJ_zero]; exact HRB.out k hk
                case round =>
                  obtain ⟨j, v, hj, rfl, hL⟩ := hrel
                  by_cases hlt3 : j < m
                  · have hrt := rt_lt c m j (by omega) hlt3
                    obtain ⟨k, t, hkt⟩ : ∃ k t, sc (rt c m j) = (k, t) := ⟨_, _, rfl⟩
                    have hkn : k < n := by have := HSC.out _ hrt; rw [hkt] at this; exact this
                    have HST : Hid (stR sc c m j = (k, t)) := hkt
                    obtain ⟨X1, X2, HlAx, HlBx, HgAx, HgBx, Hiax, Hibx, X3⟩ := HALL.out
                    have HlF : ∀ i, i < n → fb i < w3.heap.size := HlBx
                    have HgF : ∀ i, i < n → w2.heap.size + 2 ≤ fb i := HgBx
                    have HiF : ∀ i j, i < n → j < n → fb i = fb j → i = j := Hibx
                    clear HlAx HlBx HgAx HgBx Hiax Hibx X1 X2 X3
                    have kA := HlF k hkn
                    have kG := HgF k hkn
                    have HsF : ∀ i, i < n → sB ≠ fb i := fun i hi => by have := HlF i hi; omega
                    have HlF5 : ∀ i, i < n → fb i < w6.heap.size := fun i hi => by have := HlF i hi; omega
                    have HO : ∀ i, i < w3.heap.size → (∀ k, k < n → i ≠ fb k) → wr.heap[i]? = w6.heap[i]? := fun i hi hne => by
                      refine hL.fr.block i (by omega) ?_
                      rintro (q | ⟨k', hk', q⟩ | q)
                      · omega
                      · exact hne k' hk' q
                      · omega
                    have zr := hL.fr.size
                    have Hr : Below w.heap.size w wr := Fr.toBelow H6 hL.fr (fun i hi => by
                      have := H6.size
                      rintro (q | ⟨k', hk', q⟩ | q)
                      · omega
                      · have := HgF k' hk'; omega
                      · omega)
                    have pA := (HpB6.of_block (HO _ (by omega) (fun k' hk' => by have := HgF k' hk'; omega))).cell hkn
                    rcases hS1 with h0 | ⟨b2, o2, ha2, hb2, hat2'⟩
                    · exfalso; omega
                    have hat2 := hat2'.eq (Hr.block b2 hb2)
                    subst ha2
                    have s0 := hat2.c0 (rt c m j) hrt
                    have s1 := hat2.c1 (rt c m j) hrt
                    rw [hkt] at s0 s1
                    dsimp only at s0 s1
                    have hEL := EJ_len fb D (stR sc c m) j
                    have hkI : (0 : Int) ≤ (k : Int) := by omega
                    have hkJ : (k : Int) < (n : Int) := by omega
                    have lpA : (w2.heap.size + 1) < wr.heap.size := by omega
                    have hsl := hL.hs
                    have hrl := hL.hr k hkn
                    have hxl := hL.hx
                    have HH : Hid (Lp w6 wr sB n j fb (newS 0 0 fm free xB yB) D (stR sc c m) v ∧ (∀ i j, i < n → j < n → fb i = fb j → i = j) ∧ (∀ i, i < n → sB ≠ fb i) ∧ (∀ i, i < n → fb i < w6.heap.size)) := ⟨hL, HiF, HsF, HlF5⟩
                    have nsA : sB ≠ fb k := HsF k hkn
                    have HNE : Hid (sB ≠ fb k) := nsA
                    have N1 : Hid (¬ (wr.heap.size = sB ∨ wr.heap.size = fb k ∨ some wr.heap.size = v.ownBlock)) := by
                      rintro (q | q | q)
                      · omega
                      · omega
                      · have := (hxl.lt _ q.symm).2; omega
                    have N2 : Hid (¬ ((w2.heap.size + 1) = sB ∨ (w2.heap.size + 1) = fb k ∨ some ((w2.heap.size + 1)) = v.ownBlock)) := by
                      rintro (q | q | q)
                      · omega
                      · omega
                      · have := (hxl.lt _ q.symm).1; omega
                    clear hat2 hat2' hkt HO hL HsF HlF5 HiF HlF HgF nsA
                    go_wp2_with fail
                    refine (rot_any j c m wr (by omega) (by omega) (by omega)).mono ?_
                    rintro e w7 ⟨rfl, hw7⟩
                    subst hw7
                    rw [show (if m ≤ c + j then c + j - m else c + j) = rt c m j from rfl]
                    generalize rt c m j = r at hrt s0 s1 ⊢
                    go_wp2
                    generalize hwq : w7.alloc (Obj.cells #[Value.int IntKind.i64 ↑k, Value.int IntKind.i64 t] 82) = wq
                    have hbq : Below w7.heap.size w7 wq := by rw [← hwq]; exact (Below.refl _ _).alloc (Nat.le_refl _) _
                    have m0 : wq.cell? ⟨w7.heap.size, 0, none⟩ = some (.int .i64 (k : Int)) := by rw [← hwq]; simp [go_sem]
                    have m1 : wq.cell? ⟨w7.heap.size, 1, none⟩ = some (.int .i64 t) := by rw [← hwq]; simp [go_sem]
                    have m2 := (hbq.cell (p := ⟨w2.heap.size + 1, k, none⟩) lpA).trans pA
                    have hsq := (hsl.below hbq).drew
                    have hrq := (hrl.below hbq).drew
                    have hxq : Ex wq.drew w6.heap.size v (EJ fb D (stR sc c m) j) := Ex.kept hxl (fun k _ hk2 => hbq.block k hk2)
                    have zq := hbq.size
                    have i1 : sB < w6.heap.size := by omega
                    have i2 : fb k < w6.heap.size := by omega
                    have i3 : w6.heap.size ≤ wq.drew.heap.size := by simp; omega
                    have i4 : (EJ fb D (stR sc c m) j).length ≤ 1000000 := by omega
                    clear hwq hsl hrl hxl
                    go_region_held3 (fun w' => w'.cell? ⟨w7.heap.size, 0, none⟩ = some (.int .i64 (k : Int)) ∧ w'.cell? ⟨w7.heap.size, 1, none⟩ = some (.int .i64 t) ∧ w'.cell? ⟨w2.heap.size + 1, k, none⟩ = some (.pointer (some ⟨fb k, 0, none⟩)))
                      (first | exact ⟨m0, m1, m2⟩ | exact ⟨Fr.cell (w := wq.drew) d4 m0 N1.out, Fr.cell (w := wq.drew) d4 m1 N1.out, Fr.cell (w := wq.drew) d4 m2 N2.out⟩)
                      (first | (go_at_call 39; refine (zzDecide_any sB (fb k) w6.heap.size (SJ (newS 0 0 fm free xB yB) D (stR sc c m) j v) (RJ D (stR sc c m) j k) (EJ fb D (stR sc c m) j) t _ hsq hrq HNE.out i1 i2 i3 hxq i4).mono ?_; rintro e w8 ⟨rfl, v', d1, d2, d3, d4⟩))
                    have HST2 := lp_step HH.out.1 HST.out hkn HH.out.2.1 HH.out.2.2.1 HH.out.2.2.2 (by omega) (hbq.drew) d1 d2 d3 d4
                    clear d1 d2 d3 d4 m0 m1 m2 s0 s1 pA
                    go_wp2
                    go_roundw
                    case rel => exact ⟨j + 1, v', by omega, by go_num, HST2⟩
                    case measure => simp [intOf]; omega
                  · have ejm : m = j := by omega
                    subst ejm
                    obtain ⟨w7, rfl⟩ : ∃ w7 : World, w7 = wr := ⟨_, rfl⟩
                    obtain ⟨X1, X2, HlAx, HlBx, HgAx, HgBx, X3, X4, Hnex⟩ := HALL.out
                    have hLA := HLA.out
                    have z7 := hL.fr.size
                    have OB : ∀ i, i < w6.heap.size → i ≠ sB → (∀ k, k < n → i ≠ fb k) → w7.heap[i]? = w6.heap[i]? := fun i hi h1 h2 => by
                      refine hL.fr.block i hi ?_
                      rintro (q | ⟨k', hk', q⟩ | q)
                      · exact h1 q
                      · exact h2 k' hk' q
                      · omega
                    have H7 : Below w.heap.size w w7 := Fr.toBelow H6 hL.fr (fun i hi => by
                      have := H6.size
                      rintro (q | ⟨k', hk', q⟩ | q)
                      · omega
                      · have := HgBx k' hk'; omega
                      · omega)
                    have RA : Ran w7 sA w2.heap.size w5.heap.size n fa (SJ (newS 0 0 fm free xA yA) D (stR sc 0 m) m vA) (RJ D (stR sc 0 m) m) (EJ fa D (stR sc 0 m) m) := by
                      refine ⟨?_, ?_, fun k hk => ?_, ?_⟩
                      · have h := hLA.hs
                        unfold Blk at h ⊢
                        rw [OB sA (by omega) (by omega) (fun k hk => by have := HlBx k hk; omega)]; exact h
                      · exact HpA6.of_block (OB _ (by omega) (by omega) (fun k hk => by have := HgBx k hk; omega))
                      · have h := hLA.hr k hk
                        have h2 := HlAx k hk
                        unfold Blk at h ⊢
                        rw [OB (fa k) (by omega) (by omega) (fun k' hk' => Hnex k k' hk hk')]; exact h
                      · exact Ex.kept hLA.hx (fun i h1 h2 => OB i h2 (by omega) (fun k hk => by have := HlBx k hk; omega))
                    have RB : Ran w7 sB (w2.heap.size + 1) w6.heap.size n fb (SJ (newS 0 0 fm free xB yB) D (stR sc c m) m v) (RJ D (stR sc c m) m) (EJ fb D (stR sc c m) m) :=
                      ⟨hL.hs, HpB6.of_block (OB _ (by omega) (by omega) (fun k hk => by have := HgBx k hk; omega)), hL.hr, hL.hx⟩
                    have hF7 : Blk w7 w1.heap.size (FJ D sc free m).cells 66 := by
                      unfold Blk at hF6 ⊢
                      rw [OB w1.heap.size (by omega) (by omega) (fun k hk => by have := HgBx k hk; omega)]; exact hF6
                    have KA : ∀ wx, Below w7.heap.size w7 wx → Calls Try.prog 45 #[.pointer (some ⟨sA, 0, none⟩), .slice (some ⟨w2.heap.size, 0, none⟩) n n, .slice a n c1, .slice a2 m c2, .int .i64 0, .int .i64 (MJ D sc fm m), .agg (FJ D sc free m).cells] wx fun e w' => e = .returned (.bool true) ∧ Below wx.heap.size wx w' := fun wx hx => by
                      have h := runOK_any sA w2.heap.size w5.heap.size n m 0 c1 c2 fa a a2 (SJ (newS 0 0 fm free xA yA) D (stR sc 0 m) m vA) D sc wx (RA.below hx) (hD.below (chain H7 hx)) (hS1.below (chain H7 hx)) HSC.out hn hm (by omega)
                      have e1 : (SJ (newS 0 0 fm free xA yA) D (stR sc 0 m) m vA).fm = MJ D sc fm m := MJ_rot D sc fm 0 m (by omega)
                      have e2 : (SJ (newS 0 0 fm free xA yA) D (stR sc 0 m) m vA).free = FJ D sc free m := FJ_rot D sc free 0 m (by omega)
                      rw [e1, e2] at h
                      exact h
                    have KB : ∀ wx, Below w7.heap.size w7 wx → Calls Try.prog 45 #[.pointer (some ⟨sB, 0, none⟩), .slice (some ⟨w2.heap.size + 1, 0, none⟩) n n, .slice a n c1, .slice a2 m c2, .int .i64 (c : Int), .int .i64 (MJ D sc fm m), .agg (FJ D sc free m).cells] wx fun e w' => e = .returned (.bool true) ∧ Below wx.heap.size wx w' := fun wx hx => by
                      have h := runOK_any sB (w2.heap.size + 1) w6.heap.size n m c c1 c2 fb a a2 (SJ (newS 0 0 fm free xB yB) D (stR sc c m) m v) D sc wx (RB.below hx) (hD.below (chain H7 hx)) (hS1.below (chain H7 hx)) HSC.out hn hm hc
                      have e1 : (SJ (newS 0 0 fm free xB yB) D (stR sc c m) m v).fm = MJ D sc fm m := MJ_rot D sc fm c m hc
                      have e2 : (SJ (newS 0 0 fm free xB yB) D (stR sc c m) m v).free = FJ D sc free m := FJ_rot D sc free c m hc
                      rw [e1, e2] at h
                      exact h
                    have KA2 := (show Hid _ from KA)
                    have KB2 := (show Hid _ from KB)
                    have f0 : w7.cell? ⟨w1.heap.size, 0, none⟩ = some (.int .i64 (FJ D sc free m).l0) := hF7.cell rfl
                    have f1 : w7.cell? ⟨w1.heap.size, 1, none⟩ = some (.int .i64 (FJ D sc free m).l1) := hF7.cell rfl
                    have f2 : w7.cell? ⟨w1.heap.size, 2, none⟩ = some (.bool (FJ D sc free m).la) := hF7.cell rfl
                    have f3 : w7.cell? ⟨w1.heap.size, 3, none⟩ = some (.int .i64 (FJ D sc free m).f0) := hF7.cell rfl
                    have f4 : w7.cell? ⟨w1.heap.size, 4, none⟩ = some (.int .i64 (FJ D sc free m).f1) := hF7.cell rfl
                    have f5 : w7.cell? ⟨w1.heap.size, 5, none⟩ = some (.bool (FJ D sc free m).fa) := hF7.cell rfl
                    clear X1 X2 X3 X4 Hnex HlAx HlBx HgAx HgBx hLA hL RA RB OB KA KB HALL HRB HLA rB6 HpB6 HpA6 hF6
                    go_wp2_with fail
                    refine (KA2.out w7 (Below.refl _ _)).mono ?_
                    rintro e w8 ⟨rfl, b8⟩
                    have hF8 := hF7.below b8
                    have g0 : w8.cell? ⟨w1.heap.size, 0, none⟩ = some (.int .i64 (FJ D sc free m).l0) := hF8.cell rfl
                    have g1 : w8.cell? ⟨w1.heap.size, 1, none⟩ = some (.int .i64 (FJ D sc free m).l1) := hF8.cell rfl
                    have g2 : w8.cell? ⟨w1.heap.size, 2, none⟩ = some (.bool (FJ D sc free m).la) := hF8.cell rfl
                    have g3 : w8.cell? ⟨w1.heap.size, 3, none⟩ = some (.int .i64 (FJ D sc free m).f0) := hF8.cell rfl
                    have g4 : w8.cell? ⟨w1.heap.size, 4, none⟩ = some (.int .i64 (FJ D sc free m).f1) := hF8.cell rfl
                    have g5 : w8.cell? ⟨w1.heap.size, 5, none⟩ = some (.bool (FJ D sc free m).fa) := hF8.cell rfl
                    clear f0 f1 f2 f3 f4 f5
                    go_wp2_with fail
                    refine (KB2.out w8 b8).mono ?_
                    rintro e w9 ⟨rfl, b9⟩
                    go_wp2
                    go_ret
                    exact ⟨rfl, chain (chain H7 b8) b9⟩

end Go.Proofs.Qxb6619458a
