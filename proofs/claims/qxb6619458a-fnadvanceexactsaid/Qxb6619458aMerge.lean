import Derived.Test.Qxb6619458aBase
import Derived.BigRegion
import Derived.RegionTactic
namespace Go.Proofs.Qxb6619458a
open Go.RowKit

/-- The hull of two spans. -/
def hullS (a0 a1 : Int) (aa : Bool) (b0 b1 : Int) (ba : Bool) : Int × Int × Bool :=
  if ba = false then (a0, a1, aa) else if aa = false then (b0, b1, true) else (min a0 b0, max a1 b1, true)

/-- Three cells of a span, laid. -/
def put3 (cs : Array Value) (o : Nat) (h : Int × Int × Bool) : Array Value :=
  ((cs.setIfInBounds o (.int .i64 h.1)).setIfInBounds (o + 1) (.int .i64 h.2.1)).setIfInBounds (o + 2) (.bool h.2.2)

theorem Fr.setAt {b : Nat} {a w : World} (h : Fr (· = b) a w) (j : Nat) (v : Value) : Fr (· = b) a (w.setCell ⟨b, j, none⟩ v) :=
  Fr.setCell (p := ⟨b, j, none⟩) h (.inl rfl) v

theorem set_same {cs : Array Value} {j : Nat} {v : Value} (h : cs[j]? = some v) : cs.setIfInBounds j v = cs := by
  apply Array.ext_getElem?
  intro i
  rw [Array.getElem?_setIfInBounds]
  by_cases e : j = i
  · subst e
    obtain ⟨hl, _⟩ := Array.getElem?_eq_some_iff.1 h
    rw [if_pos rfl, if_pos hl, h]
  · rw [if_neg e]

set_option maxRecDepth 100000 in
set_option maxHeartbeats 1000000 in
theorem smerge_no (b o : Nat) (b0 b1 : Int) (w : World) :
    Calls Try.prog 68 #[.pointer (some ⟨b, o, none⟩), .agg #[.int .i64 b0, .int .i64 b1, .bool false]] w fun e w' => e = .returned (.tuple #[]) ∧ w' = w.alloc (.cells #[.int .i64 b0, .int .i64 b1, .bool false] 90) := by
  go_enter Try.func68, Try.ntmps68
  go_wp2
  go_end0
  exact ⟨rfl, rfl⟩

set_option maxRecDepth 100000 in
set_option maxHeartbeats 1000000 in
theorem smerge_new (b o : Nat) (cs : Array Value) (T : TypeId) (a0 a1 b0 b1 : Int) (w : World) (h : Blk w b cs T) (h0 : cs[o]? = some (.int .i64 a0)) (h1 : cs[o + 1]? = some (.int .i64 a1)) (h2 : cs[o + 2]? = some (.bool false)) :
    Calls Try.prog 68 #[.pointer (some ⟨b, o, none⟩), .agg #[.int .i64 b0, .int .i64 b1, .bool true]] w fun e w' => e = .returned (.tuple #[]) ∧ Blk w' b (put3 cs o (b0, b1, true)) T ∧ Fr (· = b) w w' := by
  have hl := h.lt
  have c0 := h.cell h0
  have c1 := h.cell h1
  have c2 := h.cell h2
  have f0 := h.frozen o
  have f1 := h.frozen (o + 1)
  have f2 := h.frozen (o + 2)
  have hne : ¬ b = w.heap.size := by omega
  go_enter Try.func68, Try.ntmps68
  go_wp2
  go_end0
  refine ⟨rfl, ?_, ?_⟩
  · exact (((h.set _ _).set _ _).set _ _).alloc _
  · exact ((((Fr.refl _ _).setAt _ _).setAt _ _).setAt _ _).alloc _

theorem smerge_end {b o : Nat} {cs : Array Value} {T : TypeId} {w : World} {x y mn mx : Int} (O : Obj) (h : Blk w b cs T) (h2 : cs[o + 2]? = some (.bool true)) (hx : x = mn) (hy : y = mx) :
    Blk (((w.setCell ⟨b, o, none⟩ (.int .i64 x)).setCell ⟨b, o + 1, none⟩ (.int .i64 y)).alloc O).drew b (put3 cs o (mn, mx, true)) T ∧ Fr (· = b) w (((w.setCell ⟨b, o, none⟩ (.int .i64 x)).setCell ⟨b, o + 1, none⟩ (.int .i64 y)).alloc O).drew := by
  subst hx hy
  have e : put3 cs o (x, y, true) = (cs.setIfInBounds o (.int .i64 x)).setIfInBounds (o + 1) (.int .i64 y) := by
    unfold put3
    refine set_same ?_
    rw [Array.getElem?_setIfInBounds, if_neg (by omega), Array.getElem?_setIfInBounds, if_neg (by omega), h2]
  rw [e]
  exact ⟨(((h.set _ _).set _ _).alloc _).drew, ((((Fr.refl _ _).setAt _ _).setAt _ _).alloc _).drew⟩

set_option maxRecDepth 100000 in
set_option maxHeartbeats 4000000 in
theorem smerge_both (b o : Nat) (cs : Array Value) (T : TypeId) (a0 a1 b0 b1 : Int) (w : World) (h : Blk w b cs T) (h0 : cs[o]? = some (.int .i64 a0)) (h1 : cs[o + 1]? = some (.int .i64 a1)) (h2 : cs[o + 2]? = some (.bool true)) :
    Calls Try.prog 68 #[.pointer (some ⟨b, o, none⟩), .agg #[.int .i64 b0, .int .i64 b1, .bool true]] w fun e w' => e = .returned (.tuple #[]) ∧ Blk w' b (put3 cs o (min a0 b0, max a1 b1, true)) T ∧ Fr (· = b) w w' := by
  have hl := h.lt
  have c0 := h.cell h0
  have c1 := h.cell h1
  have c2 := h.cell h2
  have f0 := h.frozen o
  have f1 := h.frozen (o + 1)
  have hne : ¬ b = w.heap.size := by omega
  go_enter Try.func68, Try.ntmps68
  go_wp2
  go_region
  all_goals
    go_end0
    refine ⟨rfl, ?_⟩
    refine smerge_end _ h h2 ?_ ?_
    all_goals omega

theorem smerge_any (b o : Nat) (cs : Array Value) (T : TypeId) (a0 a1 b0 b1 : Int) (aa ba : Bool) (w : World) (h : Blk w b cs T) (h0 : cs[o]? = some (.int .i64 a0)) (h1 : cs[o + 1]? = some (.int .i64 a1)) (h2 : cs[o + 2]? = some (.bool aa)) :
    Calls Try.prog 68 #[.pointer (some ⟨b, o, none⟩), .agg #[.int .i64 b0, .int .i64 b1, .bool ba]] w fun e w' => e = .returned (.tuple #[]) ∧ Blk w' b (put3 cs o (hullS a0 a1 aa b0 b1 ba)) T ∧ Fr (· = b) w w' := by
  cases ba with
  | false =>
    refine (smerge_no b o b0 b1 w).mono ?_
    rintro e w' ⟨rfl, rfl⟩
    have e : put3 cs o (hullS a0 a1 aa b0 b1 false) = cs := by
      simp only [hullS, if_true, put3]
      rw [set_same h0, set_same h1, set_same h2]
    rw [e]
    exact ⟨rfl, h.alloc _, (Fr.refl _ _).alloc _⟩
  | true =>
    cases aa with
    | false => exact smerge_new b o cs T a0 a1 b0 b1 w h h0 h1 h2
    | true => exact smerge_both b o cs T a0 a1 b0 b1 w h h0 h1 h2

end Go.Proofs.Qxb6619458a
