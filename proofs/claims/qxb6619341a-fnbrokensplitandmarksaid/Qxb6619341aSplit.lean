import Derived.Test.Qxb6619341aPlain
import Derived.Test.Qxb6619341aBytes
import Derived.Test.Qxb6619341aRowsB
namespace Go.Proofs.Qxb6619341a
open Go.RowKit

set_option maxRecDepth 100000 in
set_option maxHeartbeats 4000000 in
theorem split_lt (b off n c k : Nat) (L : Nat → R) (w : World) (hn : n ≤ 9223372036854775807) (hb : b < w.heap.size) (hat : At w b off n L) (hnc : n ≤ c) (hc : c ≤ maxLen) (hk : k ≤ n) (hkc : k < c) :
    Calls Try.prog 3 #[.slice (some ⟨b, off, none⟩) n c, .int .i64 (k : Int)] w fun e w' => e = .returned (.bool true) ∧ Below w.heap.size w w' := by
  unfold maxLen at hc
  go_enter Try.func3, Try.ntmps3
  go_wp2_with fail
  refine (bytes5_any b off n c k L w hn hat).mono ?_
  rintro e w0 ⟨⟨t, rfl⟩, hw0⟩
  subst hw0
  cases t
  · go_wp2
    go_ret
    exact ⟨rfl, Below.refl _ _⟩
  go_wp2_with fail
  refine (rowsB_any b off n c L w0 hn hb hat).mono ?_
  rintro e w1 ⟨⟨t, ok, rfl, ht0, ht1, hok⟩, hb1⟩
  cases ok
  · go_wp2
    go_ret
    exact ⟨rfl, hb1⟩
  have hm : n ≤ 14563 := hok rfl
  clear hok
  have z1 := hb1.size
  have at1 := hat.below hb1 hb
  go_wp2_with fail
  refine (toC_any b off n c L w1 (by omega) (by omega) at1).mono ?_
  rintro e w2 ⟨rfl, r2, hb2⟩
  have z2 := r2.lt
  have at2 := at1.below hb2 (by omega)
  go_wp2_with fail
  refine (toC_any b off k c L w2 (by omega) (by omega) (at2.left k hk)).mono ?_
  rintro e w3 ⟨rfl, r3, hb3⟩
  have z3 := r3.lt
  have at3 := at2.below hb3 (by omega)
  have r3w := row_below r2 hb3 z2
  have H3 := chain (chain hb1 hb2) hb3
  have HS : Hid (brk L n = (brk L k || brk (fun i => L (k + i)) (n - k))) := by
    have hs := brk_add L k (n - k)
    rwa [show k + (n - k) = n from by omega] at hs
  go_wp2_with fail
  refine (toC_any b (off + k * 5) (n - k) (c - k) (fun i => L (k + i)) w3 (by omega) (by omega) (at3.right k hk)).mono ?_
  rintro e w4 ⟨rfl, r4, hb4⟩
  have z4 := r4.lt
  have r24 := row_below r3w hb4 (by omega)
  have r34 := row_below r3 hb4 z3
  go_wp2_with fail
  refine (broken_any _ 0 n n L w4 (by omega) (by omega) (At.ofRow r24)).mono ?_
  rintro e w5 ⟨rfl, hb5⟩
  have z5 := hb5.size
  have r35 := row_below r34 hb5 (by omega)
  have r45 := row_below r4 hb5 z4
  go_wp2_with fail
  refine (broken_any _ 0 k k L w5 (by omega) (by omega) (At.ofRow r35)).mono ?_
  rintro e w6 ⟨rfl, hb6⟩
  have z6 := hb6.size
  have r46 := row_below r45 hb6 (by omega)
  have H6 := chain (chain (chain H3 hb4) hb5) hb6
  have e1 := HS.out
  clear HS r35 r45 r34 r24 r3w r3 r2 r4 at1 at2 at3
  cases hl : brk L k
  case' false =>
    rw [hl, Bool.false_or] at e1
    go_wp2_with fail
    refine (broken_any _ 0 (n - k) (n - k) (fun i => L (k + i)) w6 (by omega) (by omega) (At.ofRow r46)).mono ?_
    rintro e w7 ⟨rfl, hb7⟩
    have H7 := chain H6 hb7
  case' true =>
    rw [hl, Bool.true_or] at e1
    rename World => w7
    have H7 := H6
  all_goals
    have z7 := H7.size
    go_wp2_with fail
    refine (toC_any b off n _ L w7 (by omega) (by omega) (hat.below H7 hb)).mono ?_
    rintro e w8 ⟨rfl, r8, hb8⟩
    have H8 := chain H7 hb8
    go_wp2
    go_loopw [12] (fun i wr => ∃ q : Nat, q ≤ n ∧ i = .int .i64 q ∧ wr.rowIs w7.heap.size 30 (n * 5) (flatOf (clr L q)) ∧ Below w0.heap.size w0 wr) (fun i _ => n - (intOf i).toNat)
    case atStart => exact ⟨0, Nat.zero_le _, rfl, by rw [clr_zero]; exact r8, H8⟩
    case round =>
      obtain ⟨q, hq, rfl, hrow, hnx⟩ := hrel
      by_cases hlt : q < n
      · have g4 := hrow.cell (i := q * 5 + 4) (by omega)
        have f4 := hrow.frozen (q * 5 + 4)
        go_wp2
        go_roundw
        case rel => exact ⟨q + 1, by omega, by go_num, row_clr hrow, hnx.setCell (p := ⟨w7.heap.size, _, none⟩) z7 _⟩
        case measure => simp [intOf]; omega
      · obtain rfl : q = n := by omega
        go_wp2_with fail
        refine (broken_any _ 0 q q (clr L q) wr (by omega) hrow.lt (At.ofRow hrow)).mono ?_
        rintro e w9 ⟨rfl, hb9⟩
        have H9 := chain hnx hb9
        have z9 := H9.size
        have e2 := brk_clr L q
        by_cases hkn : k < q
        · go_wp2_with fail
          refine (toC_any b off q _ L w9 (by omega) (by omega) (hat.below H9 hb)).mono ?_
          rintro e w10 ⟨rfl, r10, hb10⟩
          have H10 := chain H9 hb10
          have z10 := r10.lt
          have g4 := r10.cell (i := k * 5 + 4) (by omega)
          have f4 := r10.frozen (k * 5 + 4)
          have r11 := row_mrk (k := k) r10
          go_wp2_with fail
          refine (broken_any _ 0 q q (mrk L k) _ (by omega) (by simpa using z10) (At.ofRow r11)).mono ?_
          rintro e w11 ⟨rfl, hb11⟩
          have e3 := brk_mrk L k q hkn
          go_wp2
          go_ret
          exact ⟨rfl, chain (H10.setCell (p := ⟨w9.heap.size, _, none⟩) z9 _) hb11⟩
        · go_wp2
          go_ret
          exact ⟨rfl, H9⟩

end Go.Proofs.Qxb6619341a
