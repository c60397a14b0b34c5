import Derived.Test.Qxb6619458aMerge
import Derived.Deep.RegionWith
import Derived.Deep.DrawnRows
namespace Go.Proofs.Qxb6619458a
open Go.RowKit

def hullL (a b : Lat) : Lat :=
  let x := hullS a.l0 a.l1 a.la b.l0 b.l1 b.la
  let y := hullS a.f0 a.f1 a.fa b.f0 b.f1 b.fa
  ⟨x.1, x.2.1, x.2.2, y.1, y.2.1, y.2.2⟩

theorem Fr.cell {O : Nat → Prop} {w w' : World} (f : Fr O w w') {b j : Nat} {v : Value} (h : w.cell? ⟨b, j, none⟩ = some v) (hn : ¬ O b) : w'.cell? ⟨b, j, none⟩ = some v :=
  (World.cell?_of_block (w := w) (f.block b (World.block_lt_of_cell? w _ h) hn)).trans h

theorem put3_get {cs : Array Value} {o j : Nat} {x : Int × Int × Bool} (h : j < o ∨ o + 2 < j) : (put3 cs o x)[j]? = cs[j]? := by
  unfold put3
  rw [Array.getElem?_setIfInBounds, if_neg (by omega), Array.getElem?_setIfInBounds, if_neg (by omega), Array.getElem?_setIfInBounds, if_neg (by omega)]

set_option maxRecDepth 100000 in
set_option maxHeartbeats 1000000 in
theorem lmerge_any (b o : Nat) (cs : Array Value) (T : TypeId) (a m : Lat) (w : World) (h : Blk w b cs T) (h0 : cs[o]? = some (.int .i64 a.l0)) (h1 : cs[o + 1]? = some (.int .i64 a.l1)) (h2 : cs[o + 2]? = some (.bool a.la))
    (h3 : cs[o + 3]? = some (.int .i64 a.f0)) (h4 : cs[o + 3 + 1]? = some (.int .i64 a.f1)) (h5 : cs[o + 3 + 2]? = some (.bool a.fa)) :
    Calls Try.prog 64 #[.pointer (some ⟨b, o, none⟩), .agg #[.int .i64 m.l0, .int .i64 m.l1, .bool m.la, .int .i64 m.f0, .int .i64 m.f1, .bool m.fa]] w fun e w' =>
      e = .returned (.tuple #[]) ∧ Blk w' b (put3 (put3 cs o (hullS a.l0 a.l1 a.la m.l0 m.l1 m.la)) (o + 3) (hullS a.f0 a.f1 a.fa m.f0 m.f1 m.fa)) T ∧ Fr (· = b) w w' := by
  have hl := h.lt
  go_enter Try.func64, Try.ntmps64
  go_wp2
  go_region_with (go_at_call 68; refine (smerge_any b o cs T a.l0 a.l1 m.l0 m.l1 a.la m.la _ (by exact (h.alloc _).drew) h0 h1 h2).mono ?_; rintro e w1 ⟨rfl, hb1, hf1⟩)
  have d3 : w1.cell? ⟨w.heap.size, 3, none⟩ = some (.int .i64 m.f0) := hf1.cell (by simp [go_sem]) (by omega)
  have d4 : w1.cell? ⟨w.heap.size, 4, none⟩ = some (.int .i64 m.f1) := hf1.cell (by simp [go_sem]) (by omega)
  have d5 : w1.cell? ⟨w.heap.size, 5, none⟩ = some (.bool m.fa) := hf1.cell (by simp [go_sem]) (by omega)
  have hf : Fr (· = b) w w1 := (((Fr.refl (· = b) w).alloc _).drew).trans hf1 (fun _ _ q => q)
  have z1 := hf.size
  clear hf1
  go_wp2
  go_region_with (go_at_call 68; refine (smerge_any b (o + 3) (put3 cs o (hullS a.l0 a.l1 a.la m.l0 m.l1 m.la)) T a.f0 a.f1 m.f0 m.f1 a.fa m.fa _ (by exact hb1.drew) (by rw [put3_get (by omega)]; exact h3) (by rw [put3_get (by omega)]; exact h4) (by rw [put3_get (by omega)]; exact h5)).mono ?_; rintro e w2 ⟨rfl, hb2, hf2⟩)
  go_wp2
  go_end0
  exact ⟨rfl, hb2, hf.drew.trans hf2 (fun _ _ q => q)⟩

end Go.Proofs.Qxb6619458a
