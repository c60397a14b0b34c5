import Derived.Test.Qxb6619341aOwn
import Derived.Test.Qxb6619341aBytes9
import Derived.Test.Qxb6619341aRowsB
namespace Go.Proofs.Qxb6619341a
open Go.RowKit

set_option maxRecDepth 100000 in
set_option maxHeartbeats 2000000 in
theorem ins_in (b off n c k : Nat) (r : R) (L : Nat → R) (w : World) (hn : n ≤ 9223372036854775807) (hb : b < w.heap.size) (hat : At w b off n L) (hk : k ≤ n) :
    Calls Try.prog 4 #[.slice (some ⟨b, off, none⟩) n c, .int .i64 (k : Int), .agg #[.string r.s0, .string r.s1, .string r.s2, .string r.s3, .bool r.h]] w fun e w' => e = .returned (.bool true) ∧ Below w.heap.size w w' := by
  obtain ⟨wz, hwz⟩ : ∃ wz, wz = w.alloc (.cells #[.string r.s0, .string r.s1, .string r.s2, .string r.s3, .bool r.h] 31) := ⟨_, rfl⟩
  have zz : wz.heap.size = w.heap.size + 1 := by rw [hwz]; simp
  have hB : Below w.heap.size w wz := by rw [hwz]; exact (Below.refl _ _).alloc (Nat.le_refl _) _
  have q0 : wz.cell? ⟨w.heap.size, 0, none⟩ = some (.string r.s0) := by rw [hwz]; simp [go_sem]
  have q1 : wz.cell? ⟨w.heap.size, 1, none⟩ = some (.string r.s1) := by rw [hwz]; simp [go_sem]
  have q2 : wz.cell? ⟨w.heap.size, 2, none⟩ = some (.string r.s2) := by rw [hwz]; simp [go_sem]
  have q3 : wz.cell? ⟨w.heap.size, 3, none⟩ = some (.string r.s3) := by rw [hwz]; simp [go_sem]
  have q4 : wz.cell? ⟨w.heap.size, 4, none⟩ = some (.bool r.h) := by rw [hwz]; simp [go_sem]
  have atz := hat.below hB hb
  have HZ : Hid (wz.heap.size = w.heap.size + 1) := zz
  have zz1 : w.heap.size < wz.heap.size := by omega
  clear zz
  go_enter Try.func4, Try.ntmps4
  go_wp2_with fail
  rw [← hwz]
  clear hwz
  refine (bytes9_any b off n c k r L wz hn (by omega) atz).mono ?_
  rintro e w0 ⟨⟨t, rfl⟩, hb0⟩
  have H0 : Below w.heap.size w w0 := hB.trans (hb0.mono (by omega))
  cases t
  · go_wp2
    go_ret
    exact ⟨rfl, H0⟩
  have z0 := hb0.size
  have at0 := atz.below hb0 (by omega)
  go_wp2_with fail
  refine (rowsB_any b off n c L w0 hn (by omega) at0).mono ?_
  rintro e w1 ⟨⟨t, ok, rfl, ht0, ht1, hok⟩, hb1⟩
  have H1 := chain H0 hb1
  have Z1 := chain hb0 hb1
  have at1 := at0.below hb1 (by omega)
  have z1 := hb1.size
  cases ok
  · go_wp2
    go_ret
    exact ⟨rfl, H1⟩
  have hm : n ≤ 14563 := hok rfl
  clear hok
  have p0 := (Z1.cell (p := ⟨w.heap.size, 0, none⟩) zz1).trans q0
  have p1 := (Z1.cell (p := ⟨w.heap.size, 1, none⟩) zz1).trans q1
  have p2 := (Z1.cell (p := ⟨w.heap.size, 2, none⟩) zz1).trans q2
  have p3 := (Z1.cell (p := ⟨w.heap.size, 3, none⟩) zz1).trans q3
  have p4 := (Z1.cell (p := ⟨w.heap.size, 4, none⟩) zz1).trans q4
  go_wp2_with fail
  refine (one_any r t w1 ht0 ht1).mono ?_
  rintro e w2 ⟨⟨t2, ok, rfl, _, _, _⟩, hb2⟩
  have H2 := chain H1 hb2
  have Z2 := chain Z1 hb2
  have at2 := at1.below hb2 (by omega)
  have z2 := hb2.size
  cases ok
  · go_wp2
    go_ret
    exact ⟨rfl, H2⟩
  go_wp2_with fail
  refine (toC_any b off n c L w2 (by omega) (by omega) at2).mono ?_
  rintro e w3 ⟨rfl, r3, hb3⟩
  have H3 := chain H2 hb3
  have Z3 := chain Z2 hb3
  have at3 := at2.below hb3 (by omega)
  have z3 := r3.lt
  clear at0 at1 at2 atz hat hb0 hb1 hb2 Z1 Z2 H0 H1 H2 hB
  obtain ⟨i0, hi, hz0, hz1, hz2⟩ := info_parts Try.info30
  have hmk : ∀ wx : World, (Instr.makeSlice 26 (.int .i64 0) (.int .i64 ((n : Int) + 1))).run Try.prog wx = .ok (.slice (some ⟨wx.heap.size, 0, none⟩) 0 (n + 1)) (wx.alloc (.cells (zeros ((n + 1) * 5)) 30)) := fun wx => by
    have := make_rows 0 (n + 1) (by omega) (by omega) wx
    rwa [show ((n + 1 : Nat) : Int) = (n : Int) + 1 from by omega, show ((0 : Nat) : Int) = 0 from rfl] at this
  go_wp2
  clear hmk p0 p1 p2 p3 p4
  go_loopw [10, 11] (fun v i wr => ∃ q : Nat, q ≤ k ∧ i = .int .i64 q ∧ v = .slice (some ⟨w3.heap.size, 0, none⟩) q (n + 1) ∧ wr.ownsRow w3.heap.size 30 5 (.slice (some ⟨w3.heap.size, 0, none⟩) q (n + 1)) q (fl (ins L k r) q) ∧ Below w3.heap.size w3 wr) (fun _ i _ => k - (intOf i).toNat)
  case atStart =>
    exact ⟨0, Nat.zero_le _, rfl, rfl, World.ownsRow_made w3 (zeros ((n + 1) * 5)) (n + 1) (Nat.le_refl _) (by unfold maxLen; omega) (size_madeCells _ _), (Below.refl _ _).alloc (Nat.le_refl _) _⟩
  case round =>
    obtain ⟨q, hq, rfl, rfl, hown, hnx⟩ := hrel
    by_cases hlt : q < k
    · have hqn : q < n := by omega
      have a0 := (at3.below hnx (by omega)).c0 q hqn
      have a1 := (at3.below hnx (by omega)).c1 q hqn
      have a2 := (at3.below hnx (by omega)).c2 q hqn
      have a3 := (at3.below hnx (by omega)).c3 q hqn
      have a4 := (at3.below hnx (by omega)).c4 q hqn
      go_wp2_with (at_builtin; refine wpList_append_fits _ rfl (.tmp 53) (.tmp 58) 26 rfl w3.heap.size 30 i0 5 Try.underlying26 hi hz1 w3.heap.size q (n + 1) (fl (ins L k r) q) rfl (hown.alloc _) ⟨wr.heap.size, 0, none⟩ 1 1 (cellsOf (L q)) rfl rfl (new_cells wr (L q)) (one_cells (L q)) (by omega) ?_; intro w4 hown' hgr)
      have R := own_step (by simp [ins, hlt]) hnx rfl hown' hgr
      clear hown' hgr hown a0 a1 a2 a3 a4
      go_wp2
      go_roundw
      case rel => exact ⟨q + 1, by omega, by go_num, rfl, R.1, R.2⟩
      case measure => simp [intOf]; omega
    · obtain rfl : q = k := by omega
      have Z4 := chain Z3 hnx
      have p0 := (Z4.cell (p := ⟨w.heap.size, 0, none⟩) zz1).trans q0
      have p1 := (Z4.cell (p := ⟨w.heap.size, 1, none⟩) zz1).trans q1
      have p2 := (Z4.cell (p := ⟨w.heap.size, 2, none⟩) zz1).trans q2
      have p3 := (Z4.cell (p := ⟨w.heap.size, 3, none⟩) zz1).trans q3
      have p4 := (Z4.cell (p := ⟨w.heap.size, 4, none⟩) zz1).trans q4
      go_wp2_with (at_builtin; refine wpList_append_fits _ rfl (.tmp 60) (.tmp 62) 26 rfl w3.heap.size 30 i0 5 Try.underlying26 hi hz1 w3.heap.size q (n + 1) (fl (ins L q r) q) rfl (hown.alloc _) ⟨wr.heap.size, 0, none⟩ 1 1 (cellsOf r) rfl rfl (new_cells wr r) (one_cells r) (by omega) ?_; intro w4 hown' hgr)
      have R := own_step (by simp [ins]) hnx rfl hown' hgr
      clear hown' hgr hown p0 p1 p2 p3 p4 hnx Z4
      go_wp2
      go_loopw [10, 12] (fun v i wx => ∃ j : Nat, q ≤ j ∧ j ≤ n ∧ i = .int .i64 j ∧ v = .slice (some ⟨w3.heap.size, 0, none⟩) (j + 1) (n + 1) ∧ wx.ownsRow w3.heap.size 30 5 (.slice (some ⟨w3.heap.size, 0, none⟩) (j + 1) (n + 1)) (j + 1) (fl (ins L q r) (j + 1)) ∧ Below w3.heap.size w3 wx) (fun _ i _ => n - (intOf i).toNat)
      case atStart => exact ⟨q, Nat.le_refl _, hk, rfl, rfl, R.1, R.2⟩
      case round =>
        clear R
        obtain ⟨j, hqj, hj, rfl, rfl, hown, hnx⟩ := hrel
        by_cases hjn : j < n
        · have a0 := (at3.below hnx (by omega)).c0 j hjn
          have a1 := (at3.below hnx (by omega)).c1 j hjn
          have a2 := (at3.below hnx (by omega)).c2 j hjn
          have a3 := (at3.below hnx (by omega)).c3 j hjn
          have a4 := (at3.below hnx (by omega)).c4 j hjn
          go_wp2_with (at_builtin; refine wpList_append_fits _ rfl (.tmp 71) (.tmp 76) 26 rfl w3.heap.size 30 i0 5 Try.underlying26 hi hz1 w3.heap.size (j + 1) (n + 1) (fl (ins L q r) (j + 1)) rfl (hown.alloc _) ⟨wr.heap.size, 0, none⟩ 1 1 (cellsOf (L j)) rfl rfl (new_cells wr (L j)) (one_cells (L j)) (by omega) ?_; intro w5 hown' hgr)
          have hM : ins L q r (j + 1) = L j := by
            have h1 : ¬ (j + 1 < q) := by omega
            have h2 : ¬ (j + 1 = q) := by omega
            simp only [ins, h1, h2, if_false, Nat.add_sub_cancel]
          have R := own_step hM hnx rfl hown' hgr
          clear hown' hgr hown a0 a1 a2 a3 a4 hM
          go_wp2
          go_roundw
          case rel => exact ⟨j + 1, by omega, by omega, by go_num, rfl, R.1, R.2⟩
          case measure => simp [intOf]; omega
        · obtain rfl : j = n := by omega
          have zr := hnx.size
          have Z4 := chain Z3 hnx
          have H4 := chain H3 hnx
          have r4 := row_below r3 hnx z3
          obtain ⟨g, cap, hv, hg, hatM⟩ := at_of_own hown (by omega)
          simp only [Value.slice.injEq, Option.some.injEq, Addr.mk.injEq, and_true, true_and] at hv
          obtain ⟨rfl, rfl⟩ := hv
          clear hown
          have p4 := (Z4.cell (p := ⟨w.heap.size, 4, none⟩) zz1).trans q4
          have hbr := brk_ins L q j r hqj
          have HB : Hid (brk (ins L q r) (j + 1) = (brk L j || !r.h)) := hbr
          clear hbr
          go_wp2_with fail
          refine (broken_any _ 0 j j L wr (by omega) (by omega) (At.ofRow r4)).mono ?_
          rintro e w5 ⟨rfl, hb5⟩
          have z5 := hb5.size
          have at5 := hatM.below hb5 (by omega)
          have p5 := (hb5.cell (p := ⟨w.heap.size, 4, none⟩) (show w.heap.size < wr.heap.size by have := Z4.size; omega)).trans p4
          have H5 := chain H4 hb5
          have e1 := HB.out
          clear HB p4 hatM at3
          cases hl : brk L j
          case' false => rw [hl, Bool.false_or] at e1
          case' true => rw [hl, Bool.true_or] at e1
          all_goals
            go_wp2_with fail
            refine (broken_any _ 0 (j + 1) (j + 1) (ins L q r) w5 (by omega) (by omega) at5).mono ?_
            rintro e w6 ⟨rfl, hb6⟩
            go_wp2
            go_ret
            exact ⟨rfl, chain H5 hb6⟩

end Go.Proofs.Qxb6619341a
