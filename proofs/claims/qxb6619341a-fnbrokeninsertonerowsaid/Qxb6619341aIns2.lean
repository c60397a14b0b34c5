import Derived.Test.Qxb6619341aIns
namespace Go.Proofs.Qxb6619341a
open Go.RowKit

set_option maxRecDepth 100000 in
set_option maxHeartbeats 2000000 in
theorem ins_out (b off n c : Nat) (x : Int) (r : R) (L : Nat → R) (w : World) (hn : n ≤ 9223372036854775807) (hb : b < w.heap.size) (hat : At w b off n L) (hx : x < 0 ∨ (n : Int) < x) :
    Calls Try.prog 4 #[.slice (some ⟨b, off, none⟩) n c, .int .i64 x, .agg #[.string r.s0, .string r.s1, .string r.s2, .string r.s3, .bool r.h]] w fun e w' => e = .returned (.bool true) ∧ Below w.heap.size w w' := by
  obtain ⟨wz, hwz⟩ : ∃ wz, wz = w.alloc (.cells #[.string r.s0, .string r.s1, .string r.s2, .string r.s3, .bool r.h] 31) := ⟨_, rfl⟩
  have zz : wz.heap.size = w.heap.size + 1 := by rw [hwz]; simp
  have hB : Below w.heap.size w wz := by rw [hwz]; exact (Below.refl _ _).alloc (Nat.le_refl _) _
  have q0 : wz.cell? ⟨w.heap.size, 0, none⟩ = some (.string r.s0) := by rw [hwz]; simp [go_sem]
  have q1 : wz.cell? ⟨w.heap.size, 1, none⟩ = some (.string r.s1) := by rw [hwz]; simp [go_sem]
  have q2 : wz.cell? ⟨w.heap.size, 2, none⟩ = some (.string r.s2) := by rw [hwz]; simp [go_sem]
  have q3 : wz.cell? ⟨w.heap.size, 3, none⟩ = some (.string r.s3) := by rw [hwz]; simp [go_sem]
  have q4 : wz.cell? ⟨w.heap.size, 4, none⟩ = some (.bool r.h) := by rw [hwz]; simp [go_sem]
  have zz1 : w.heap.size < wz.heap.size := by omega
  clear zz
  have atz := hat.below hB hb
  have hx' : x < 0 ∨ (0 ≤ x ∧ (n : Int) < x) := by omega
  clear hx
  rcases hx' with hx | ⟨hx0, hx⟩
  all_goals
    go_enter Try.func4, Try.ntmps4
    go_wp2_with fail
    rw [← hwz]
    clear hwz
    refine (bytes9_any b off n c x r L wz hn (by omega) atz).mono ?_
    rintro e w0 ⟨⟨t, rfl⟩, hb0⟩
    have H0 : Below w.heap.size w w0 := hB.trans (hb0.mono (by omega))
    cases t
    · go_wp2
      go_ret
      exact ⟨rfl, H0⟩
    have z0 := hb0.size
    have at0 := atz.below hb0 (by omega)
    go_wp2_with fail
    refine (rowsB_any b off n c L w0 hn (by omega) at0).mono ?_
    rintro e w1 ⟨⟨t, ok, rfl, ht0, ht1, hok⟩, hb1⟩
    have H1 := chain H0 hb1
    have Z1 := chain hb0 hb1
    cases ok
    · go_wp2
      go_ret
      exact ⟨rfl, H1⟩
    clear hok
    have p0 := (Z1.cell (p := ⟨w.heap.size, 0, none⟩) zz1).trans q0
    have p1 := (Z1.cell (p := ⟨w.heap.size, 1, none⟩) zz1).trans q1
    have p2 := (Z1.cell (p := ⟨w.heap.size, 2, none⟩) zz1).trans q2
    have p3 := (Z1.cell (p := ⟨w.heap.size, 3, none⟩) zz1).trans q3
    have p4 := (Z1.cell (p := ⟨w.heap.size, 4, none⟩) zz1).trans q4
    go_wp2_with fail
    refine (one_any r t w1 ht0 ht1).mono ?_
    rintro e w2 ⟨⟨t2, ok, rfl, _, _, _⟩, hb2⟩
    have H2 := chain H1 hb2
    cases ok
    all_goals
      go_wp2
      go_ret
      exact ⟨rfl, H2⟩

set_option maxRecDepth 100000 in
set_option maxHeartbeats 2000000 in
theorem ins_nil (x : Int) (r : R) (w : World) :
    Calls Try.prog 4 #[.slice none 0 0, .int .i64 x, .agg #[.string r.s0, .string r.s1, .string r.s2, .string r.s3, .bool r.h]] w fun e w' => e = .returned (.bool true) ∧ Below w.heap.size w w' := by
  obtain ⟨wz, hwz⟩ : ∃ wz, wz = w.alloc (.cells #[.string r.s0, .string r.s1, .string r.s2, .string r.s3, .bool r.h] 31) := ⟨_, rfl⟩
  have zz : wz.heap.size = w.heap.size + 1 := by rw [hwz]; simp
  have hB : Below w.heap.size w wz := by rw [hwz]; exact (Below.refl _ _).alloc (Nat.le_refl _) _
  have q0 : wz.cell? ⟨w.heap.size, 0, none⟩ = some (.string r.s0) := by rw [hwz]; simp [go_sem]
  have q1 : wz.cell? ⟨w.heap.size, 1, none⟩ = some (.string r.s1) := by rw [hwz]; simp [go_sem]
  have q2 : wz.cell? ⟨w.heap.size, 2, none⟩ = some (.string r.s2) := by rw [hwz]; simp [go_sem]
  have q3 : wz.cell? ⟨w.heap.size, 3, none⟩ = some (.string r.s3) := by rw [hwz]; simp [go_sem]
  have q4 : wz.cell? ⟨w.heap.size, 4, none⟩ = some (.bool r.h) := by rw [hwz]; simp [go_sem]
  have zz1 : w.heap.size < wz.heap.size := by omega
  clear zz
  have hx' : x < 0 ∨ (0 ≤ x ∧ (0 : Int) < x) ∨ x = 0 := by omega
  rcases hx' with hx | ⟨hx0, hx⟩ | rfl
  all_goals
    go_enter Try.func4, Try.ntmps4
    go_wp2_with fail
    rw [← hwz]
    clear hwz
    refine (bytes9_nil none _ r wz).mono ?_
    rintro e w0 ⟨⟨t, rfl⟩, hb0⟩
    have H0 : Below w.heap.size w w0 := hB.trans (hb0.mono (by omega))
    cases t
    · go_wp2
      go_ret
      exact ⟨rfl, H0⟩
    have z0 := hb0.size
    go_wp2_with fail
    refine (rowsB_nil none w0).mono ?_
    rintro e w1 ⟨⟨t, ok, rfl, ht0, ht1, hok⟩, hb1⟩
    have H1 := chain H0 hb1
    have Z1 := chain hb0 hb1
    cases ok
    · go_wp2
      go_ret
      exact ⟨rfl, H1⟩
    clear hok
    have p0 := (Z1.cell (p := ⟨w.heap.size, 0, none⟩) zz1).trans q0
    have p1 := (Z1.cell (p := ⟨w.heap.size, 1, none⟩) zz1).trans q1
    have p2 := (Z1.cell (p := ⟨w.heap.size, 2, none⟩) zz1).trans q2
    have p3 := (Z1.cell (p := ⟨w.heap.size, 3, none⟩) zz1).trans q3
    have p4 := (Z1.cell (p := ⟨w.heap.size, 4, none⟩) zz1).trans q4
    go_wp2_with fail
    refine (one_any r t w1 ht0 ht1).mono ?_
    rintro e w2 ⟨⟨t2, ok, rfl, _, _, _⟩, hb2⟩
    have H2 := chain H1 hb2
    have Z2 := chain Z1 hb2
    clear p0 p1 p2 p3 p4
    cases ok
    · go_wp2
      go_ret
      exact ⟨rfl, H2⟩
  · go_wp2
    go_ret
    exact ⟨rfl, H2⟩
  · go_wp2
    go_ret
    exact ⟨rfl, H2⟩
  · go_wp2_with fail
    refine (toC_nil w2).mono ?_
    rintro e w3 ⟨rfl, hw3⟩
    have hb3 : Below w2.heap.size w2 w3 := by rw [hw3]; exact Below.refl _ _
    clear hw3
    have H3 := chain H2 hb3
    have Z3 := chain Z2 hb3
    obtain ⟨i0, hi, hz0, hz1, hz2⟩ := info_parts Try.info30
    have hmk : ∀ wx : World, (Instr.makeSlice 26 (.int .i64 0) (.int .i64 1)).run Try.prog wx = .ok (.slice (some ⟨wx.heap.size, 0, none⟩) 0 1) (wx.alloc (.cells (zeros 5) 30)) := fun wx => make_rows 0 1 (by omega) (by omega) wx
    go_wp2
    clear hmk
    go_loopw [10, 11] (fun v i wr => i = .int .i64 0 ∧ v = .slice (some ⟨w3.heap.size, 0, none⟩) 0 1 ∧ wr.ownsRow w3.heap.size 30 5 (.slice (some ⟨w3.heap.size, 0, none⟩) 0 1) 0 (fl (fun _ => r) 0) ∧ Below w3.heap.size w3 wr) (fun _ _ _ => 0)
    case atStart =>
      exact ⟨rfl, rfl, World.ownsRow_made w3 (zeros 5) 1 (Nat.le_refl _) (by unfold maxLen; omega) (size_madeCells _ _), (Below.refl _ _).alloc (Nat.le_refl _) _⟩
    case round =>
      obtain ⟨rfl, rfl, hown, hnx⟩ := hrel
      have Z4 := chain Z3 hnx
      have p0 := (Z4.cell (p := ⟨w.heap.size, 0, none⟩) zz1).trans q0
      have p1 := (Z4.cell (p := ⟨w.heap.size, 1, none⟩) zz1).trans q1
      have p2 := (Z4.cell (p := ⟨w.heap.size, 2, none⟩) zz1).trans q2
      have p3 := (Z4.cell (p := ⟨w.heap.size, 3, none⟩) zz1).trans q3
      have p4 := (Z4.cell (p := ⟨w.heap.size, 4, none⟩) zz1).trans q4
      go_wp2_with (at_builtin; refine wpList_append_fits _ rfl (.tmp 60) (.tmp 62) 26 rfl w3.heap.size 30 i0 5 Try.underlying26 hi hz1 w3.heap.size 0 1 (fl (fun _ => r) 0) rfl (hown.alloc _) ⟨wr.heap.size, 0, none⟩ 1 1 (cellsOf r) rfl rfl (new_cells wr r) (one_cells r) (by omega) ?_; intro w4 hown' hgr)
      have R := own_step (M := fun _ => r) (q := 0) rfl hnx rfl hown' hgr
      clear hown' hgr hown p0 p1 p2 p3 p4 hnx Z4
      go_wp2
      go_loopw [10, 12] (fun v i wx => i = .int .i64 0 ∧ v = .slice (some ⟨w3.heap.size, 0, none⟩) 1 1 ∧ wx.ownsRow w3.heap.size 30 5 (.slice (some ⟨w3.heap.size, 0, none⟩) 1 1) 1 (fl (fun _ => r) 1) ∧ Below w3.heap.size w3 wx) (fun _ _ _ => 0)
      case atStart => exact ⟨rfl, rfl, R.1, R.2⟩
      case round =>
        clear R
        obtain ⟨rfl, rfl, hown, hnx⟩ := hrel
        have zr := hnx.size
        have Z4 := chain Z3 hnx
        have H4 := chain H3 hnx
        obtain ⟨g, cap, hv, hg, hatM⟩ := at_of_own hown (by omega)
        simp only [Value.slice.injEq, Option.some.injEq, Addr.mk.injEq, and_true, true_and] at hv
        obtain ⟨rfl, rfl⟩ := hv
        clear hown
        have p4 := (Z4.cell (p := ⟨w.heap.size, 4, none⟩) zz1).trans q4
        go_wp2_with fail
        refine (broken_nil wr).mono ?_
        rintro e w5 ⟨rfl, hb5⟩
        have z5 := hb5.size
        have at5 := hatM.below hb5 (by omega)
        have p5 := (hb5.cell (p := ⟨w.heap.size, 4, none⟩) (show w.heap.size < wr.heap.size by have := Z4.size; omega)).trans p4
        have H5 := chain H4 hb5
        have e1 : brk (fun _ => r) 1 = !r.h := by simp [brk]
        clear p4 hatM
        go_wp2_with fail
        refine (broken_any _ 0 1 1 (fun _ => r) w5 (by omega) (by omega) at5).mono ?_
        rintro e w6 ⟨rfl, hb6⟩
        go_wp2
        go_ret
        exact ⟨rfl, chain H5 hb6⟩

set_option maxRecDepth 100000 in
set_option maxHeartbeats 2000000 in
theorem ins_zero (a : Addr) (x : Int) (r : R) (w : World) :
    Calls Try.prog 4 #[.slice (some a) 0 0, .int .i64 x, .agg #[.string r.s0, .string r.s1, .string r.s2, .string r.s3, .bool r.h]] w fun e w' => e = .returned (.bool true) ∧ Below w.heap.size w w' := by
  obtain ⟨wz, hwz⟩ : ∃ wz, wz = w.alloc (.cells #[.string r.s0, .string r.s1, .string r.s2, .string r.s3, .bool r.h] 31) := ⟨_, rfl⟩
  have zz : wz.heap.size = w.heap.size + 1 := by rw [hwz]; simp
  have hB : Below w.heap.size w wz := by rw [hwz]; exact (Below.refl _ _).alloc (Nat.le_refl _) _
  have q0 : wz.cell? ⟨w.heap.size, 0, none⟩ = some (.string r.s0) := by rw [hwz]; simp [go_sem]
  have q1 : wz.cell? ⟨w.heap.size, 1, none⟩ = some (.string r.s1) := by rw [hwz]; simp [go_sem]
  have q2 : wz.cell? ⟨w.heap.size, 2, none⟩ = some (.string r.s2) := by rw [hwz]; simp [go_sem]
  have q3 : wz.cell? ⟨w.heap.size, 3, none⟩ = some (.string r.s3) := by rw [hwz]; simp [go_sem]
  have q4 : wz.cell? ⟨w.heap.size, 4, none⟩ = some (.bool r.h) := by rw [hwz]; simp [go_sem]
  have zz1 : w.heap.size < wz.heap.size := by omega
  clear zz
  have hx' : x < 0 ∨ (0 ≤ x ∧ (0 : Int) < x) ∨ x = 0 := by omega
  rcases hx' with hx | ⟨hx0, hx⟩ | rfl
  all_goals
    go_enter Try.func4, Try.ntmps4
    go_wp2_with fail
    rw [← hwz]
    clear hwz
    refine (bytes9_nil (some a) _ r wz).mono ?_
    rintro e w0 ⟨⟨t, rfl⟩, hb0⟩
    have H0 : Below w.heap.size w w0 := hB.trans (hb0.mono (by omega))
    cases t
    · go_wp2
      go_ret
      exact ⟨rfl, H0⟩
    have z0 := hb0.size
    go_wp2_with fail
    refine (rowsB_nil (some a) w0).mono ?_
    rintro e w1 ⟨⟨t, ok, rfl, ht0, ht1, hok⟩, hb1⟩
    have H1 := chain H0 hb1
    have Z1 := chain hb0 hb1
    cases ok
    · go_wp2
      go_ret
      exact ⟨rfl, H1⟩
    clear hok
    have p0 := (Z1.cell (p := ⟨w.heap.size, 0, none⟩) zz1).trans q0
    have p1 := (Z1.cell (p := ⟨w.heap.size, 1, none⟩) zz1).trans q1
    have p2 := (Z1.cell (p := ⟨w.heap.size, 2, none⟩) zz1).trans q2
    have p3 := (Z1.cell (p := ⟨w.heap.size, 3, none⟩) zz1).trans q3
    have p4 := (Z1.cell (p := ⟨w.heap.size, 4, none⟩) zz1).trans q4
    go_wp2_with fail
    refine (one_any r t w1 ht0 ht1).mono ?_
    rintro e w2 ⟨⟨t2, ok, rfl, _, _, _⟩, hb2⟩
    have H2 := chain H1 hb2
    have Z2 := chain Z1 hb2
    clear p0 p1 p2 p3 p4
    cases ok
    · go_wp2
      go_ret
      exact ⟨rfl, H2⟩
  · go_wp2
    go_ret
    exact ⟨rfl, H2⟩
  · go_wp2
    go_ret
    exact ⟨rfl, H2⟩
  · go_wp2_with fail
    refine (toC_zero a w2).mono ?_
    rintro e w3 ⟨rfl, z3, hb3⟩
    have H3 := chain H2 hb3
    have Z3 := chain Z2 hb3
    obtain ⟨i0, hi, hz0, hz1, hz2⟩ := info_parts Try.info30
    have hmk : ∀ wx : World, (Instr.makeSlice 26 (.int .i64 0) (.int .i64 1)).run Try.prog wx = .ok (.slice (some ⟨wx.heap.size, 0, none⟩) 0 1) (wx.alloc (.cells (zeros 5) 30)) := fun wx => make_rows 0 1 (by omega) (by omega) wx
    go_wp2
    clear hmk
    go_loopw [10, 11] (fun v i wr => i = .int .i64 0 ∧ v = .slice (some ⟨w3.heap.size, 0, none⟩) 0 1 ∧ wr.ownsRow w3.heap.size 30 5 (.slice (some ⟨w3.heap.size, 0, none⟩) 0 1) 0 (fl (fun _ => r) 0) ∧ Below w3.heap.size w3 wr) (fun _ _ _ => 0)
    case atStart =>
      exact ⟨rfl, rfl, World.ownsRow_made w3 (zeros 5) 1 (Nat.le_refl _) (by unfold maxLen; omega) (size_madeCells _ _), (Below.refl _ _).alloc (Nat.le_refl _) _⟩
    case round =>
      obtain ⟨rfl, rfl, hown, hnx⟩ := hrel
      have Z4 := chain Z3 hnx
      have p0 := (Z4.cell (p := ⟨w.heap.size, 0, none⟩) zz1).trans q0
      have p1 := (Z4.cell (p := ⟨w.heap.size, 1, none⟩) zz1).trans q1
      have p2 := (Z4.cell (p := ⟨w.heap.size, 2, none⟩) zz1).trans q2
      have p3 := (Z4.cell (p := ⟨w.heap.size, 3, none⟩) zz1).trans q3
      have p4 := (Z4.cell (p := ⟨w.heap.size, 4, none⟩) zz1).trans q4
      go_wp2_with (at_builtin; refine wpList_append_fits _ rfl (.tmp 60) (.tmp 62) 26 rfl w3.heap.size 30 i0 5 Try.underlying26 hi hz1 w3.heap.size 0 1 (fl (fun _ => r) 0) rfl (hown.alloc _) ⟨wr.heap.size, 0, none⟩ 1 1 (cellsOf r) rfl rfl (new_cells wr r) (one_cells r) (by omega) ?_; intro w4 hown' hgr)
      have R := own_step (M := fun _ => r) (q := 0) rfl hnx rfl hown' hgr
      clear hown' hgr hown p0 p1 p2 p3 p4 hnx Z4
      go_wp2
      go_loopw [10, 12] (fun v i wx => i = .int .i64 0 ∧ v = .slice (some ⟨w3.heap.size, 0, none⟩) 1 1 ∧ wx.ownsRow w3.heap.size 30 5 (.slice (some ⟨w3.heap.size, 0, none⟩) 1 1) 1 (fl (fun _ => r) 1) ∧ Below w3.heap.size w3 wx) (fun _ _ _ => 0)
      case atStart => exact ⟨rfl, rfl, R.1, R.2⟩
      case round =>
        clear R
        obtain ⟨rfl, rfl, hown, hnx⟩ := hrel
        have zr := hnx.size
        have Z4 := chain Z3 hnx
        have H4 := chain H3 hnx
        obtain ⟨g, cap, hv, hg, hatM⟩ := at_of_own hown (by omega)
        simp only [Value.slice.injEq, Option.some.injEq, Addr.mk.injEq, and_true, true_and] at hv
        obtain ⟨rfl, rfl⟩ := hv
        clear hown
        have p4 := (Z4.cell (p := ⟨w.heap.size, 4, none⟩) zz1).trans q4
        go_wp2_with fail
        refine (broken_any _ 0 0 0 noRows wr (by omega) (by omega) (At.none rfl)).mono ?_
        rintro e w5 ⟨rfl, hb5⟩
        have e0 : brk noRows 0 = false := rfl
        have z5 := hb5.size
        have at5 := hatM.below hb5 (by omega)
        have p5 := (hb5.cell (p := ⟨w.heap.size, 4, none⟩) (show w.heap.size < wr.heap.size by have := Z4.size; omega)).trans p4
        have H5 := chain H4 hb5
        have e1 : brk (fun _ => r) 1 = !r.h := by simp [brk]
        clear p4 hatM
        go_wp2_with fail
        refine (broken_any _ 0 1 1 (fun _ => r) w5 (by omega) (by omega) at5).mono ?_
        rintro e w6 ⟨rfl, hb6⟩
        go_wp2
        go_ret
        exact ⟨rfl, chain H5 hb6⟩

end Go.Proofs.Qxb6619341a
