import Derived.Test.Qxb6619458aMem
import Derived.Test.Qxb6619458aLeaf
import Derived.Deep.RegionHeld3
import Derived.Laws.StructEq
import Derived.LaidEqlPtr
namespace Go.Proofs.Qxb6619458a
open Go.RowKit

set_option maxRecDepth 100000 in
set_option maxHeartbeats 1000000 in
theorem exAt_any (s B : Nat) (S : Sum) (E : List (Int × Nat)) (i : Nat) (t : Int) (b : Nat) (w : World) (hs : Blk w s S.cells 96) (hx : Ex w B S.ex E) (hi : E[i]? = some (t, b)) :
    Calls Try.prog 23 #[.pointer (some ⟨s, 0, none⟩), .int .i64 (i : Int)] w fun e w' => e = .returned (.tuple #[.int .i64 t, .pointer (some ⟨b, 0, none⟩)]) ∧ ∃ n, w' = w.drewN n := by
  have hlt := (List.getElem?_eq_some_iff.1 hi).1
  obtain ⟨g, cap, hv, hg, c0, c1⟩ := hx.at hi
  have c21 : w.cell? ⟨s, 21, none⟩ = some (.slice (some ⟨g, 0, none⟩) E.length cap) := by rw [← hv]; exact hs.cell rfl
  clear hv hi hx
  have h0 : (0 : Int) ≤ (i : Int) := by omega
  have h1 : (i : Int) < (E.length : Int) := by omega
  go_enter Try.func23, Try.ntmps23
  go_wp2
  go_quiet (fail)
  go_wp2
  go_ret2
  exact ⟨rfl, _, rfl⟩

theorem eq66 (l : Lat) (w : World) : (Op.equalIn 10000 66 (.agg #[.int .i64 l.l0, .int .i64 l.l1, .bool l.la, .int .i64 l.f0, .int .i64 l.f1, .bool l.fa]) (.agg #[.int .i64 l.l0, .int .i64 l.l1, .bool l.la, .int .i64 l.f0, .int .i64 l.f1, .bool l.fa])).run Try.prog w = .ok true w := by
  have u2 := Try.underlying2
  have u4 := Try.underlying4
  have a2 := Try.isAgg2
  have z2 := Try.sizeOf2
  have a4 := Try.isAgg4
  have z4 := Try.sizeOf4
  have hS : Try.prog.underlying 66 = some (.struct (Try.prog.fieldsOf 66)) := by kernel_rfl
  have hp : Try.prog.stoodInHeld 66 = false := by kernel_rfl
  rw [show (10000 : Nat) = 9999 + 1 from rfl, run_equalIn_agg w 9999 66 _ _ hS hp]
  simp only [Program.fieldsOf, Try.underlying66]
  go_simp
theorem neq66 (l : Lat) (w : World) : (binOp .neq 66 (.agg #[.int .i64 l.l0, .int .i64 l.l1, .bool l.la, .int .i64 l.f0, .int .i64 l.f1, .bool l.fa]) (.agg #[.int .i64 l.l0, .int .i64 l.l1, .bool l.la, .int .i64 l.f0, .int .i64 l.f1, .bool l.fa])).run Try.prog w = .ok (.bool false) w := by
  rw [run_neq_struct, eq66]
  rfl
theorem guard66 : Try.prog.eqGuardType Try.prog.depth 66 = false := by kernel_rfl

theorem eq40 (b : Nat) (w : World) : (binOp .eql 40 (.pointer (some ⟨b, 0, none⟩)) (.pointer (some ⟨b, 0, none⟩))).run Try.prog w = .ok (.bool true) w := by
  have h : (Try.prog.info? 99).isSome = true := by kernel_rfl
  obtain ⟨j, hj⟩ := Option.isSome_iff_exists.1 h
  exact run_eql_ptr_same w _ Try.underlying40 hj
theorem neq40 (b : Nat) (w : World) : (binOp .neq 40 (.pointer (some ⟨b, 0, none⟩)) (.pointer (some ⟨b, 0, none⟩))).run Try.prog w = .ok (.bool false) w := by
  have h : (Try.prog.info? 99).isSome = true := by kernel_rfl
  obtain ⟨j, hj⟩ := Option.isSome_iff_exists.1 h
  have hq : ∀ d : Nat, (Op.equalIn (d + 1) 40 (.pointer (some ⟨b, 0, none⟩)) (.pointer (some ⟨b, 0, none⟩))).run Try.prog w = .ok true w := fun d => by
    simp [Op.equalIn, run_underlying Try.underlying40, sizeOf, typeInfo, hj, run_sameAddr_same]
  simp only [binOp]
  simp [Op.equal, Op.maxDepth, hq 9999]

/-- All that decideRunOK reads of one run. -/
structure Ran (w : World) (s P B n : Nat) (a : Nat → Nat) (S : Sum) (R : Nat → Rec) (E : List (Int × Nat)) : Prop where
  hs : Blk w s S.cells 96
  hp : w.rowIs P 40 n (fun k => .pointer (some ⟨a k, 0, none⟩))
  hr : ∀ k, k < n → Blk w (a k) (R k).cells 99
  hx : Ex w B S.ex E

theorem Ran.below {w w' : World} {s P B n : Nat} {a : Nat → Nat} {S : Sum} {R : Nat → Rec} {E : List (Int × Nat)} (h : Ran w s P B n a S R E) (hb : Below w.heap.size w w') : Ran w' s P B n a S R E :=
  ⟨h.hs.below hb, h.hp.of_block (hb.block P h.hp.lt), fun k hk => (h.hr k hk).below hb, h.hx.kept (fun k _ hk2 => hb.block k hk2)⟩

end Go.Proofs.Qxb6619458a
