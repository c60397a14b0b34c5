import Derived.Test.Qxb6619458aBase
import Derived.BigQuiet
import Derived.Deep.QuietTactic
namespace Go.Proofs.Qxb6619458a
open Go.RowKit

set_option maxRecDepth 100000 in
theorem freeMsgs_any (b : Nat) (S : Sum) (w : World) (h : Blk w b S.cells 96) :
    Calls Try.prog 57 #[.pointer (some ⟨b, 0, none⟩)] w fun e w' => e = .returned (.int .i64 S.fm) ∧ w' = w := by
  have c0 : w.cell? ⟨b, 15, none⟩ = some (.int .i64 S.fm) := h.cell rfl
  go_enter Try.func57, Try.ntmps57
  go_wp2
  go_ret
  exact ⟨rfl, rfl⟩

set_option maxRecDepth 100000 in
theorem now_any (b : Nat) (S : Sum) (w : World) (h : Blk w b S.cells 96) :
    Calls Try.prog 15 #[.pointer (some ⟨b, 0, none⟩)] w fun e w' => e = .returned (.int .i64 S.now) ∧ w' = w := by
  have c0 : w.cell? ⟨b, 16, none⟩ = some (.int .i64 S.now) := h.cell rfl
  go_enter Try.func15, Try.ntmps15
  go_wp2
  go_ret
  exact ⟨rfl, rfl⟩

set_option maxRecDepth 100000 in
theorem clashes_any (b : Nat) (S : Rec) (w : World) (h : Blk w b S.cells 99) :
    Calls Try.prog 21 #[.pointer (some ⟨b, 0, none⟩)] w fun e w' => e = .returned (.bool S.cl) ∧ w' = w := by
  have c0 : w.cell? ⟨b, 5, none⟩ = some (.bool S.cl) := h.cell rfl
  go_enter Try.func21, Try.ntmps21
  go_wp2
  go_ret
  exact ⟨rfl, rfl⟩

set_option maxRecDepth 100000 in
theorem decided_any (b : Nat) (S : Rec) (w : World) (h : Blk w b S.cells 99) :
    Calls Try.prog 59 #[.pointer (some ⟨b, 0, none⟩)] w fun e w' => e = .returned (.bool S.de) ∧ w' = w := by
  have c0 : w.cell? ⟨b, 6, none⟩ = some (.bool S.de) := h.cell rfl
  go_enter Try.func59, Try.ntmps59
  go_wp2
  go_ret
  exact ⟨rfl, rfl⟩

set_option maxRecDepth 100000 in
theorem everyw_any (b : Nat) (S : Rec) (w : World) (h : Blk w b S.cells 99) :
    Calls Try.prog 60 #[.pointer (some ⟨b, 0, none⟩)] w fun e w' => e = .returned (.bool S.ev) ∧ w' = w := by
  have c0 : w.cell? ⟨b, 7, none⟩ = some (.bool S.ev) := h.cell rfl
  go_enter Try.func60, Try.ntmps60
  go_wp2
  go_ret
  exact ⟨rfl, rfl⟩

set_option maxRecDepth 100000 in
theorem heard_any (b : Nat) (S : Rec) (w : World) (h : Blk w b S.cells 99) :
    Calls Try.prog 62 #[.pointer (some ⟨b, 0, none⟩)] w fun e w' => e = .returned (.int .i64 S.h) ∧ w' = w := by
  have c0 : w.cell? ⟨b, 14, none⟩ = some (.int .i64 S.h) := h.cell rfl
  go_enter Try.func62, Try.ntmps62
  go_wp2
  go_ret
  exact ⟨rfl, rfl⟩

set_option maxRecDepth 100000 in
theorem exLen_any (b : Nat) (S : Sum) (a : Option Addr) (m c : Nat) (w : World) (h : Blk w b S.cells 96) (hx : S.ex = .slice a m c) :
    Calls Try.prog 22 #[.pointer (some ⟨b, 0, none⟩)] w fun e w' => e = .returned (.int .i64 (m : Int)) ∧ w' = w := by
  have c0 : w.cell? ⟨b, 21, none⟩ = some (.slice a m c) := by rw [← hx]; exact h.cell rfl
  clear hx
  go_enter Try.func22, Try.ntmps22
  go_wp2
  go_ret
  exact ⟨rfl, rfl⟩

set_option maxRecDepth 100000 in
set_option maxHeartbeats 1000000 in
theorem free_any (b : Nat) (S : Sum) (w : World) (h : Blk w b S.cells 96) :
    Calls Try.prog 66 #[.pointer (some ⟨b, 0, none⟩)] w fun e w' => e = .returned (.tuple #[.int .i64 S.free.l0, .int .i64 S.free.l1, .bool S.free.la, .int .i64 S.free.f0, .int .i64 S.free.f1, .bool S.free.fa]) ∧ ∃ n, w' = w.drewN n := by
  have c0 : w.cell? ⟨b, 9, none⟩ = some (.int .i64 S.free.l0) := h.cell rfl
  have c1 : w.cell? ⟨b, 10, none⟩ = some (.int .i64 S.free.l1) := h.cell rfl
  have c2 : w.cell? ⟨b, 11, none⟩ = some (.bool S.free.la) := h.cell rfl
  have c3 : w.cell? ⟨b, 12, none⟩ = some (.int .i64 S.free.f0) := h.cell rfl
  have c4 : w.cell? ⟨b, 13, none⟩ = some (.int .i64 S.free.f1) := h.cell rfl
  have c5 : w.cell? ⟨b, 14, none⟩ = some (.bool S.free.fa) := h.cell rfl
  go_enter Try.func66, Try.ntmps66
  go_wp2
  go_quiet (fail)
  go_wp2
  exact bodyPost_ret (v := .tuple #[.int .i64 S.free.l0, .int .i64 S.free.l1, .bool S.free.la, .int .i64 S.free.f0, .int .i64 S.free.f1, .bool S.free.fa]) (by simp [results, Try.results66, go_sem]) rfl ⟨rfl, _, rfl⟩

set_option maxRecDepth 100000 in
set_option maxHeartbeats 1000000 in
theorem lats_any (b : Nat) (S : Rec) (w : World) (h : Blk w b S.cells 99) :
    Calls Try.prog 67 #[.pointer (some ⟨b, 0, none⟩)] w fun e w' => e = .returned (.tuple #[.int .i64 S.lat.l0, .int .i64 S.lat.l1, .bool S.lat.la, .int .i64 S.lat.f0, .int .i64 S.lat.f1, .bool S.lat.fa]) ∧ ∃ n, w' = w.drewN n := by
  have c0 : w.cell? ⟨b, 8, none⟩ = some (.int .i64 S.lat.l0) := h.cell rfl
  have c1 : w.cell? ⟨b, 9, none⟩ = some (.int .i64 S.lat.l1) := h.cell rfl
  have c2 : w.cell? ⟨b, 10, none⟩ = some (.bool S.lat.la) := h.cell rfl
  have c3 : w.cell? ⟨b, 11, none⟩ = some (.int .i64 S.lat.f0) := h.cell rfl
  have c4 : w.cell? ⟨b, 12, none⟩ = some (.int .i64 S.lat.f1) := h.cell rfl
  have c5 : w.cell? ⟨b, 13, none⟩ = some (.bool S.lat.fa) := h.cell rfl
  go_enter Try.func67, Try.ntmps67
  go_wp2
  go_quiet (fail)
  go_wp2
  exact bodyPost_ret (v := .tuple #[.int .i64 S.lat.l0, .int .i64 S.lat.l1, .bool S.lat.la, .int .i64 S.lat.f0, .int .i64 S.lat.f1, .bool S.lat.fa]) (by simp [results, Try.results67, go_sem]) rfl ⟨rfl, _, rfl⟩

set_option maxRecDepth 100000 in
set_option maxHeartbeats 1000000 in
theorem freeOf_any (b : Nat) (S : Sum) (w : World) (h : Blk w b S.cells 96) :
    Calls Try.prog 58 #[.pointer (some ⟨b, 0, none⟩)] w fun e w' => e = .returned (.agg #[.int .i64 S.free.l0, .int .i64 S.free.l1, .bool S.free.la, .int .i64 S.free.f0, .int .i64 S.free.f1, .bool S.free.fa]) ∧ Below w.heap.size w w' := by
  go_enter Try.func58, Try.ntmps58
  go_wp2_with fail
  refine (free_any b S _ (h.alloc _)).mono ?_
  rintro e w1 ⟨rfl, n, rfl⟩
  go_wp2
  refine bodyPost_ret (v := .agg #[.int .i64 S.free.l0, .int .i64 S.free.l1, .bool S.free.la, .int .i64 S.free.f0, .int .i64 S.free.f1, .bool S.free.fa]) (by simp [results, Try.results58, go_sem]) rfl ⟨rfl, ?_⟩
  have hB := below_drewN ((Below.refl w.heap.size w).alloc (Nat.le_refl _) (.cells #[.int .i64 0, .int .i64 0, .bool false, .int .i64 0, .int .i64 0, .bool false] 66)) n
  exact (((((hB.setCell (by simp) _).setCell (by simp) _).setCell (by simp) _).setCell (by simp) _).setCell (by simp) _).setCell (by simp) _

set_option maxRecDepth 100000 in
set_option maxHeartbeats 1000000 in
theorem latOf_any (b : Nat) (S : Rec) (w : World) (h : Blk w b S.cells 99) :
    Calls Try.prog 61 #[.pointer (some ⟨b, 0, none⟩)] w fun e w' => e = .returned (.agg #[.int .i64 S.lat.l0, .int .i64 S.lat.l1, .bool S.lat.la, .int .i64 S.lat.f0, .int .i64 S.lat.f1, .bool S.lat.fa]) ∧ Below w.heap.size w w' := by
  go_enter Try.func61, Try.ntmps61
  go_wp2_with fail
  refine (lats_any b S _ (h.alloc _)).mono ?_
  rintro e w1 ⟨rfl, n, rfl⟩
  go_wp2
  refine bodyPost_ret (v := .agg #[.int .i64 S.lat.l0, .int .i64 S.lat.l1, .bool S.lat.la, .int .i64 S.lat.f0, .int .i64 S.lat.f1, .bool S.lat.fa]) (by simp [results, Try.results61, go_sem]) rfl ⟨rfl, ?_⟩
  have hB := below_drewN ((Below.refl w.heap.size w).alloc (Nat.le_refl _) (.cells #[.int .i64 0, .int .i64 0, .bool false, .int .i64 0, .int .i64 0, .bool false] 66)) n
  exact (((((hB.setCell (by simp) _).setCell (by simp) _).setCell (by simp) _).setCell (by simp) _).setCell (by simp) _).setCell (by simp) _

end Go.Proofs.Qxb6619458a
