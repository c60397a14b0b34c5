import Derived.Test.Qxb6619341aSplit
import Derived.Test.Qxb6619341aSplit2
namespace Go.Proofs.Qxb6619341a
open Go.RowKit

set_option maxRecDepth 100000 in
set_option maxHeartbeats 1000000 in
theorem split_out (b off n c : Nat) (x : Int) (L : Nat → R) (w : World) (hn : n ≤ 9223372036854775807) (hb : b < w.heap.size) (hat : At w b off n L) (hx : x < 0 ∨ (n : Int) < x) :
    Calls Try.prog 3 #[.slice (some ⟨b, off, none⟩) n c, .int .i64 x] w fun e w' => e = .returned (.bool true) ∧ Below w.heap.size w w' := by
  have hx' : x < 0 ∨ (0 ≤ x ∧ (n : Int) < x) := by omega
  clear hx
  rcases hx' with hx | ⟨hx0, hx⟩
  all_goals
    go_enter Try.func3, Try.ntmps3
    go_wp2_with fail
    refine (bytes5_any b off n c x L w hn hat).mono ?_
    rintro e w0 ⟨⟨t, rfl⟩, hw0⟩
    subst hw0
    cases t
    · go_wp2
      go_ret
      exact ⟨rfl, Below.refl _ _⟩
    go_wp2_with fail
    refine (rowsB_any b off n c L w0 hn hb hat).mono ?_
    rintro e w1 ⟨⟨t, ok, rfl, ht0, ht1, _⟩, hb1⟩
    cases ok
    all_goals
      go_wp2
      go_ret
      exact ⟨rfl, hb1⟩

set_option maxRecDepth 100000 in
set_option maxHeartbeats 1000000 in
theorem split_nil (x : Int) (w : World) :
    Calls Try.prog 3 #[.slice none 0 0, .int .i64 x] w fun e w' => e = .returned (.bool true) ∧ Below w.heap.size w w' := by
  have hx' : x < 0 ∨ (0 ≤ x ∧ (0 : Int) < x) ∨ x = 0 := by omega
  rcases hx' with hx | ⟨hx0, hx⟩ | rfl
  all_goals
    go_enter Try.func3, Try.ntmps3
    go_wp2_with fail
    refine (bytes5_nil none _ w).mono ?_
    rintro e w0 ⟨⟨t, rfl⟩, hw0⟩
    subst hw0
    cases t
    · go_wp2
      go_ret
      exact ⟨rfl, Below.refl _ _⟩
    go_wp2_with fail
    refine (rowsB_nil none w0).mono ?_
    rintro e w1 ⟨⟨t, ok, rfl, ht0, ht1, _⟩, hb1⟩
    cases ok
    · go_wp2
      go_ret
      exact ⟨rfl, hb1⟩
  · go_wp2
    go_ret
    exact ⟨rfl, hb1⟩
  · go_wp2
    go_ret
    exact ⟨rfl, hb1⟩
  · go_wp2_with fail
    refine (toC_nil w1).mono ?_
    rintro e w2 ⟨rfl, hw2⟩
    subst hw2
    go_wp2_with fail
    refine (toC_nil w2).mono ?_
    rintro e w3 ⟨rfl, hw3⟩
    subst hw3
    go_wp2_with fail
    refine (toC_nil w3).mono ?_
    rintro e w4 ⟨rfl, hw4⟩
    subst hw4
    go_wp2_with fail
    refine (broken_nil w4).mono ?_
    rintro e w5 ⟨rfl, hb5⟩
    go_wp2_with fail
    refine (broken_nil w5).mono ?_
    rintro e w6 ⟨rfl, hb6⟩
    go_wp2_with fail
    refine (broken_nil w6).mono ?_
    rintro e w7 ⟨rfl, hb7⟩
    have H7 := chain (chain (chain hb1 hb5) hb6) hb7
    go_wp2_with fail
    refine (toC_nil w7).mono ?_
    rintro e w8 ⟨rfl, hw8⟩
    subst hw8
    go_wp2
    go_loopw [12] (fun i wr => i = .int .i64 0 ∧ Below w0.heap.size w0 wr) (fun _ _ => 0)
    case atStart => exact ⟨rfl, H7⟩
    case round =>
      obtain ⟨rfl, hnx⟩ := hrel
      go_wp2_with fail
      refine (broken_nil wr).mono ?_
      rintro e w9 ⟨rfl, hb9⟩
      go_wp2
      go_ret
      exact ⟨rfl, chain hnx hb9⟩

set_option maxRecDepth 100000 in
set_option maxHeartbeats 1000000 in
theorem split_zero (a : Addr) (x : Int) (w : World) :
    Calls Try.prog 3 #[.slice (some a) 0 0, .int .i64 x] w fun e w' => e = .returned (.bool true) ∧ Below w.heap.size w w' := by
  have hx' : x < 0 ∨ (0 ≤ x ∧ (0 : Int) < x) ∨ x = 0 := by omega
  rcases hx' with hx | ⟨hx0, hx⟩ | rfl
  all_goals
    go_enter Try.func3, Try.ntmps3
    go_wp2_with fail
    refine (bytes5_nil (some a) _ w).mono ?_
    rintro e w0 ⟨⟨t, rfl⟩, hw0⟩
    subst hw0
    cases t
    · go_wp2
      go_ret
      exact ⟨rfl, Below.refl _ _⟩
    go_wp2_with fail
    refine (rowsB_nil (some a) w0).mono ?_
    rintro e w1 ⟨⟨t, ok, rfl, ht0, ht1, _⟩, hb1⟩
    cases ok
    · go_wp2
      go_ret
      exact ⟨rfl, hb1⟩
  · go_wp2
    go_ret
    exact ⟨rfl, hb1⟩
  · go_wp2
    go_ret
    exact ⟨rfl, hb1⟩
  · have z1 := hb1.size
    go_wp2_with fail
    refine (toC_zero a w1).mono ?_
    rintro e w2 ⟨rfl, z2, hb2⟩
    go_wp2_with fail
    refine (toC_zero a w2).mono ?_
    rintro e w3 ⟨rfl, z3, hb3⟩
    go_wp2_with fail
    refine (toC_zero a w3).mono ?_
    rintro e w4 ⟨rfl, z4, hb4⟩
    go_wp2_with fail
    refine (broken_any _ 0 0 0 noRows w4 (by omega) (by omega) (At.none rfl)).mono ?_
    rintro e w5 ⟨rfl, hb5⟩
    have z5 := hb5.size
    go_wp2_with fail
    refine (broken_any _ 0 0 0 noRows w5 (by omega) (by omega) (At.none rfl)).mono ?_
    rintro e w6 ⟨rfl, hb6⟩
    have z6 := hb6.size
    have e0 : brk noRows 0 = false := rfl
    go_wp2_with fail
    refine (broken_any _ 0 0 0 noRows w6 (by omega) (by omega) (At.none rfl)).mono ?_
    rintro e w7 ⟨rfl, hb7⟩
    have H7 := chain (chain (chain (chain (chain (chain hb1 hb2) hb3) hb4) hb5) hb6) hb7
    go_wp2_with fail
    refine (toC_zero a w7).mono ?_
    rintro e w8 ⟨rfl, z8, hb8⟩
    have H8 := chain H7 hb8
    go_wp2
    go_loopw [12] (fun i wr => i = .int .i64 0 ∧ w7.heap.size < wr.heap.size ∧ Below w0.heap.size w0 wr) (fun _ _ => 0)
    case atStart => exact ⟨rfl, z8, H8⟩
    case round =>
      obtain ⟨rfl, z9, hnx⟩ := hrel
      go_wp2_with fail
      refine (broken_any _ 0 0 0 noRows wr (by omega) z9 (At.none rfl)).mono ?_
      rintro e w9 ⟨rfl, hb9⟩
      go_wp2
      go_ret
      exact ⟨rfl, chain hnx hb9⟩

end Go.Proofs.Qxb6619341a
