import Derived.Test.Qxb6619458aMerge2
namespace Go.Proofs.Qxb6619458a
open Go.RowKit

/-- A record as decide sees it. -/
structure DR where
  cl : Bool
  de : Bool
  ev : Bool
  lat : Lat
  h : Int

def DR.cells (d : DR) : Array Value := #[.bool d.cl, .bool d.de, .bool d.ev, .int .i64 d.lat.l0, .int .i64 d.lat.l1, .bool d.lat.la, .int .i64 d.lat.f0, .int .i64 d.lat.f1, .bool d.lat.fa, .int .i64 d.h]
def Lat.cells (l : Lat) : Array Value := #[.int .i64 l.l0, .int .i64 l.l1, .bool l.la, .int .i64 l.f0, .int .i64 l.f1, .bool l.fa]
/-- The record that newDRecord lays. -/
def DR.toRec (id : ByteArray) (d : DR) : Rec := ⟨id, .slice none 0 0, .slice none 0 0, d.cl, d.de, d.ev, d.lat, d.h⟩

theorem ret_int {a b : Int} (h : a = b) : Ending.returned (.int .i64 a) = .returned (.int .i64 b) := by rw [h]
theorem ret_tri {a b a' b' : Int} {c c' : Bool} (h : a = a') (k : b = b') (q : c = c') : Ending.returned (.tuple #[.int .i64 a, .int .i64 b, .bool c]) = .returned (.tuple #[.int .i64 a', .int .i64 b', .bool c']) := by rw [h, k, q]

set_option maxRecDepth 100000 in
set_option maxHeartbeats 1000000 in
theorem newRecord_any (id : ByteArray) (tos un : Option Addr) (n1 c1 n2 c2 : Nat) (cl de ev : Bool) (l : Lat) (h : Int) (w : World) :
    Calls Try.prog 46 #[.string id, .slice tos n1 c1, .slice un n2 c2, .bool cl, .bool de, .bool ev, .int .i64 l.l0, .int .i64 l.l1, .bool l.la, .int .i64 l.f0, .int .i64 l.f1, .bool l.fa, .int .i64 h] w fun e w' =>
      e = .returned (.pointer (some ⟨w.heap.size, 0, none⟩)) ∧ w' = w.alloc (.cells (Rec.cells ⟨id, .slice tos n1 c1, .slice un n2 c2, cl, de, ev, l, h⟩) 99) := by
  go_enter Try.func46, Try.ntmps46
  go_wp2
  go_ret
  exact ⟨rfl, rfl⟩

set_option maxRecDepth 100000 in
set_option maxHeartbeats 1000000 in
theorem newD_any (id : ByteArray) (d : DR) (w : World) :
    Calls Try.prog 37 #[.string id, .agg d.cells] w fun e w' =>
      e = .returned (.pointer (some ⟨w.heap.size + 1, 0, none⟩)) ∧ w' = (w.alloc (.cells d.cells 70)).alloc (.cells (d.toRec id).cells 99) := by
  unfold DR.cells
  go_enter Try.func37, Try.ntmps37
  go_wp2_with fail
  refine (newRecord_any id none none 0 0 0 0 d.cl d.de d.ev d.lat d.h _).mono ?_
  rintro e w1 ⟨rfl, rfl⟩
  go_wp2
  go_ret
  exact ⟨rfl, rfl⟩

/-- The summary that ZZNewSummary lays over no groups. -/
def newS (linger now fm : Int) (free : Lat) (last mp : Nat) : Sum :=
  ⟨linger, free, fm, now, .slice none 0 0, .slice (some ⟨last, 0, none⟩) 0 0, .slice none 0 0, .map (some mp), .slice none 0 0⟩

theorem make0 (w : World) : (Instr.makeSlice 30 (.int .i64 0) (.int .i64 0)).run Try.prog w = .ok (.slice (some ⟨w.heap.size, 0, none⟩) 0 0) (w.alloc (.cells #[] 40)) := by kernel_rfl

set_option maxRecDepth 100000 in
set_option maxHeartbeats 1000000 in
theorem newSum_any (linger now fm : Int) (l : Lat) (w : World) :
    Calls Try.prog 47 #[.int .i64 linger, .int .i64 now, .int .i64 fm, .int .i64 l.l0, .int .i64 l.l1, .bool l.la, .int .i64 l.f0, .int .i64 l.f1, .bool l.fa, .slice none 0 0] w fun e w' =>
      e = .returned (.pointer (some ⟨w.heap.size + 2, 0, none⟩)) ∧ w' = ((w.alloc (.cells #[] 40)).alloc (.map #[] 0)).alloc (.cells (newS linger now fm l w.heap.size (w.heap.size + 1)).cells 96) := by
  have hmk := make0
  have hmm := @run_makeMap Try.prog
  go_enter Try.func47, Try.ntmps47
  go_wp2
  go_ret
  exact ⟨rfl, rfl⟩

set_option maxRecDepth 100000 in
set_option maxHeartbeats 1000000 in
theorem newDS_any (linger now fm : Int) (l : Lat) (w : World) :
    Calls Try.prog 36 #[.int .i64 linger, .int .i64 now, .int .i64 fm, .agg l.cells] w fun e w' =>
      e = .returned (.pointer (some ⟨w.heap.size + 3, 0, none⟩)) ∧ w' = (((w.alloc (.cells l.cells 66)).alloc (.cells #[] 40)).alloc (.map #[] 0)).alloc (.cells (newS linger now fm l (w.heap.size + 1) (w.heap.size + 2)).cells 96) := by
  unfold Lat.cells
  go_enter Try.func36, Try.ntmps36
  go_wp2_with fail
  refine (newSum_any linger now fm l _).mono ?_
  rintro e w1 ⟨rfl, rfl⟩
  go_wp2
  go_ret
  exact ⟨rfl, rfl⟩

set_option maxRecDepth 100000 in
theorem rot_any (j c n : Nat) (w : World) (hj : j ≤ 1000000) (hc : c ≤ 1000000) (hn : n ≤ 1000000) :
    Calls Try.prog 44 #[.int .i64 (j : Int), .int .i64 (c : Int), .int .i64 (n : Int)] w fun e w' =>
      e = .returned (.int .i64 ((if n ≤ c + j then c + j - n else c + j : Nat) : Int)) ∧ w' = w := by
  by_cases h : n ≤ c + j
  · rw [if_pos h]
    have h' : (n : Int) ≤ (c : Int) + (j : Int) := by omega
    go_enter Try.func44, Try.ntmps44
    go_wp2
    go_ret
    exact ⟨ret_int (by omega), rfl⟩
  · rw [if_neg h]
    have h' : ¬ (n : Int) ≤ (c : Int) + (j : Int) := by omega
    go_enter Try.func44, Try.ntmps44
    go_wp2
    go_ret
    exact ⟨ret_int (by omega), rfl⟩

set_option maxRecDepth 100000 in
set_option maxHeartbeats 1000000 in
theorem hullS_any (a0 a1 b0 b1 : Int) (aa ba : Bool) (w : World) :
    Calls Try.prog 54 #[.int .i64 a0, .int .i64 a1, .bool aa, .int .i64 b0, .int .i64 b1, .bool ba] w fun e w' =>
      e = .returned (.tuple #[.int .i64 (hullS a0 a1 aa b0 b1 ba).1, .int .i64 (hullS a0 a1 aa b0 b1 ba).2.1, .bool (hullS a0 a1 aa b0 b1 ba).2.2]) ∧ w' = w := by
  cases ba
  · go_enter Try.func54, Try.ntmps54
    go_wp2
    go_ret3
    exact ⟨by simp [hullS], rfl⟩
  · cases aa
    · go_enter Try.func54, Try.ntmps54
      go_wp2
      go_ret3
      exact ⟨by simp [hullS], rfl⟩
    · go_enter Try.func54, Try.ntmps54
      go_wp2
      all_goals
        go_ret3
        exact ⟨ret_tri (c := true) (by show _ = min a0 b0; omega) (by show _ = max a1 b1; omega) rfl, rfl⟩

set_option maxRecDepth 100000 in
set_option maxHeartbeats 1000000 in
theorem hullL_any (a b : Lat) (w : World) :
    Calls Try.prog 35 #[.agg a.cells, .agg b.cells] w fun e w' => e = .returned (.agg (hullL a b).cells) ∧ Below w.heap.size w w' := by
  unfold Lat.cells
  go_enter Try.func35, Try.ntmps35
  go_wp2_with fail
  refine (hullS_any a.l0 a.l1 b.l0 b.l1 a.la b.la _).mono ?_
  rintro e w1 ⟨rfl, hw1⟩
  subst hw1
  go_wp2_with fail
  refine (hullS_any a.f0 a.f1 b.f0 b.f1 a.fa b.fa _).mono ?_
  rintro e w1 ⟨rfl, hw1⟩
  subst hw1
  go_wp2
  refine bodyPost_ret (v := .agg #[.int .i64 (hullS a.l0 a.l1 a.la b.l0 b.l1 b.la).1, .int .i64 (hullS a.l0 a.l1 a.la b.l0 b.l1 b.la).2.1, .bool (hullS a.l0 a.l1 a.la b.l0 b.l1 b.la).2.2, .int .i64 (hullS a.f0 a.f1 a.fa b.f0 b.f1 b.fa).1, .int .i64 (hullS a.f0 a.f1 a.fa b.f0 b.f1 b.fa).2.1, .bool (hullS a.f0 a.f1 a.fa b.f0 b.f1 b.fa).2.2])
    (by simp [results, Try.results35, go_sem]) rfl ⟨rfl, ?_⟩
  exact (((Below.refl _ _).alloc (Nat.le_refl _) _).alloc (by simp) _).alloc (by simp; omega) _

end Go.Proofs.Qxb6619458a
