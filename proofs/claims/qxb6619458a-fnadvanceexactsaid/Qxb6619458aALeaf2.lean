import Derived.Test.Qxb6619458aALeaf
namespace Go.Proofs.Qxb6619458a
open Go.RowKit
attribute [local go_sem ↓] Go.wp_at_zero Go.wp_at_succ

/-- A number of a record, or none. -/
def dec (k : Int) : Option Nat := if k < 0 then none else some k.toNat
theorem dec_neg {k : Int} (h : k < 0) : dec k = none := by simp [dec, h]
theorem dec_nat (k : Nat) : dec (k : Int) = some k := by simp [dec]

set_option maxRecDepth 100000 in
set_option maxHeartbeats 1000000 in
theorem lastIs_any (rb n c : Nat) (a : Nat → Nat) (k : Int) (w : World) (hr : w.rowIs rb 40 n (fun i => .pointer (some ⟨a i, 0, none⟩))) (hk : k < n) :
    Calls Try.prog 19 #[ptr a (dec k), .slice (some ⟨rb, 0, none⟩) n c, .int .i64 k] w fun e w' => e = .returned (.bool true) ∧ w' = w := by
  by_cases h0 : k < 0
  · rw [dec_neg h0]
    show Calls Try.prog 19 #[.pointer none, .slice (some ⟨rb, 0, none⟩) n c, .int .i64 k] w _
    clear hr
    go_enter Try.func19, Try.ntmps19
    go_wp2
    go_ret
    exact ⟨rfl, rfl⟩
  · obtain ⟨m, rfl⟩ : ∃ m : Nat, k = m := ⟨k.toNat, by omega⟩
    rw [dec_nat]
    show Calls Try.prog 19 #[.pointer (some ⟨a m, 0, none⟩), .slice (some ⟨rb, 0, none⟩) n c, .int .i64 (m : Int)] w _
    have hm : m < n := by omega
    have cm : w.cell? ⟨rb, m, none⟩ = some (.pointer (some ⟨a m, 0, none⟩)) := hr.cell hm
    have hq := eq40 (a m)
    clear hr
    go_enter Try.func19, Try.ntmps19
    go_wp2
    go_ret
    exact ⟨rfl, rfl⟩

set_option maxRecDepth 100000 in
set_option maxHeartbeats 1000000 in
theorem exAtW_any (s B : Nat) (S : Sum) (E : List (Int × Nat)) (i : Nat) (t : Int) (b : Nat) (w : World) (hs : Blk w s S.cells 96) (hx : Win w B S.ex E) (hi : E[i]? = some (t, b)) :
    Calls Try.prog 23 #[.pointer (some ⟨s, 0, none⟩), .int .i64 (i : Int)] w fun e w' => e = .returned (.tuple #[.int .i64 t, .pointer (some ⟨b, 0, none⟩)]) ∧ ∃ n, w' = w.drewN n := by
  have hlt := (List.getElem?_eq_some_iff.1 hi).1
  obtain ⟨g, off, cap, hv, hg, c0, c1⟩ := hx.at hi
  have c21 : w.cell? ⟨s, 21, none⟩ = some (.slice (some ⟨g, off, none⟩) E.length cap) := by rw [← hv]; exact hs.cell rfl
  clear hv hi hx
  have h0 : (0 : Int) ≤ (i : Int) := by omega
  have h1 : (i : Int) < (E.length : Int) := by omega
  go_enter Try.func23, Try.ntmps23
  go_wp2
  go_quiet (fail)
  go_wp2
  go_ret2
  exact ⟨rfl, _, rfl⟩

set_option maxRecDepth 100000 in
set_option maxHeartbeats 1000000 in
theorem adv_no (s : Nat) (S : Sum) (t : Int) (w : World) (hs : Blk w s S.cells 96) (hle : t ≤ S.now) :
    Calls Try.prog 51 #[.pointer (some ⟨s, 0, none⟩), .int .i64 t] w fun e w' => e = .returned (.tuple #[]) ∧ w' = w := by
  have c16 : w.cell? ⟨s, 16, none⟩ = some (.int .i64 S.now) := hs.cell rfl
  go_enter Try.func51, Try.ntmps51
  go_wp2
  refine bodyPost_ret (results_none rfl _ _ _) rfl ?_
  exact ⟨rfl, rfl⟩

set_option maxRecDepth 100000 in
theorem zzAdv_any (s : Nat) (t : Int) (w : World) {Q : World → Prop} (h : Calls Try.prog 51 #[.pointer (some ⟨s, 0, none⟩), .int .i64 t] w fun e w' => e = .returned (.tuple #[]) ∧ Q w') :
    Calls Try.prog 13 #[.pointer (some ⟨s, 0, none⟩), .int .i64 t] w fun e w' => e = .returned (.tuple #[]) ∧ Q w' := by
  go_enter Try.func13, Try.ntmps13
  go_wp2_with fail
  refine h.mono ?_
  rintro e w1 ⟨rfl, h1⟩
  have H1 := Hid.mk' h1
  clear h1
  go_wp2
  go_end0
  exact ⟨rfl, H1.out⟩

set_option maxRecDepth 100000 in
theorem zzPlace_any (s r : Nat) (w : World) {Q : World → Prop} (h : Calls Try.prog 53 #[.pointer (some ⟨s, 0, none⟩), .pointer (some ⟨r, 0, none⟩)] w fun e w' => e = .returned (.tuple #[]) ∧ Q w') :
    Calls Try.prog 17 #[.pointer (some ⟨s, 0, none⟩), .pointer (some ⟨r, 0, none⟩)] w fun e w' => e = .returned (.tuple #[]) ∧ Q w' := by
  go_enter Try.func17, Try.ntmps17
  go_wp2_with fail
  refine h.mono ?_
  rintro e w1 ⟨rfl, h1⟩
  have H1 := Hid.mk' h1
  clear h1
  go_wp2
  go_end0
  exact ⟨rfl, H1.out⟩

end Go.Proofs.Qxb6619458a
