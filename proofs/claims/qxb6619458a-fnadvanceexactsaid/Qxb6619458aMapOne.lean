import Derived.Test.Qxb6619458aRun
import Derived.Test.Qxb6619458aSteps
import Derived.MapKept
namespace Go.Proofs.Qxb6619458a
open Go.RowKit
attribute [local go_sem ↓] Go.wp_at_zero Go.wp_at_succ

/-- Block m is a map that holds the one entry id, record r. -/
def One (w : World) (m : Nat) (id : ByteArray) (r : Nat) : Prop := w.heap[m]? = some (.map #[⟨.string id, .pointer (some ⟨r, 0, none⟩), 0⟩] 1)
/-- Block m is an empty map. -/
def Nil (w : World) (m : Nat) : Prop := w.heap[m]? = some (.map #[] 0)

theorem One.lt {w : World} {m r : Nat} {id : ByteArray} (h : One w m id r) : m < w.heap.size := (Array.getElem?_eq_some_iff.1 h).1
theorem Nil.lt {w : World} {m : Nat} (h : Nil w m) : m < w.heap.size := (Array.getElem?_eq_some_iff.1 h).1
theorem One.below {w w' : World} {m r : Nat} {id : ByteArray} (h : One w m id r) (hb : Below w.heap.size w w') : One w' m id r := by
  have hl := h.lt
  unfold One at h ⊢
  rw [hb.block m hl]; exact h
theorem One.fr {O : Nat → Prop} {w w' : World} {m r : Nat} {id : ByteArray} (h : One w m id r) (f : Fr O w w') (hn : ¬ O m) : One w' m id r := by
  have hl := h.lt
  unfold One at h ⊢
  rw [f.block m hl hn]; exact h
theorem Nil.below {w w' : World} {m : Nat} (h : Nil w m) (hb : Below w.heap.size w w') : Nil w' m := by
  have hl := h.lt
  unfold Nil at h ⊢
  rw [hb.block m hl]; exact h

theorem One.look {w : World} {m r : Nat} {id : ByteArray} (h : One w m id r) : (Instr.lookup 93 (.map (some m)) (.string id) false).run Try.prog w = .ok (.pointer (some ⟨r, 0, none⟩)) w := by
  unfold One at h
  have hf : Instr.findNow .string (.string id) [⟨.string id, .pointer (some ⟨r, 0, none⟩), 0⟩] 0 = some (some (0, .pointer (some ⟨r, 0, none⟩))) := by have e := (MapKept.bytes_beq id id).2 rfl; simp only [Instr.findNow, Instr.sameNow, e]
  simp [Instr.lookup, run_underlying Try.underlying93, MapKept.run_getObj_map h, MapKept.run_checkKey Try.underlying9 (k := .string id) trivial, MapKept.run_findKey Try.underlying9 hf, Result.andThen]
theorem One.look2 {w : World} {m r : Nat} {id : ByteArray} (h : One w m id r) : (Instr.lookup 93 (.map (some m)) (.string id) true).run Try.prog w = .ok (.tuple #[.pointer (some ⟨r, 0, none⟩), .bool true]) w := by
  unfold One at h
  have hf : Instr.findNow .string (.string id) [⟨.string id, .pointer (some ⟨r, 0, none⟩), 0⟩] 0 = some (some (0, .pointer (some ⟨r, 0, none⟩))) := by have e := (MapKept.bytes_beq id id).2 rfl; simp only [Instr.findNow, Instr.sameNow, e]
  simp [Instr.lookup, run_underlying Try.underlying93, MapKept.run_getObj_map h, MapKept.run_checkKey Try.underlying9 (k := .string id) trivial, MapKept.run_findKey Try.underlying9 hf, Result.andThen]
theorem Nil.put {w : World} {m r : Nat} {id : ByteArray} (h : Nil w m) : (Instr.mapUpdate 93 (.map (some m)) (.string id) (.pointer (some ⟨r, 0, none⟩))).run Try.prog w = .ok () { w with heap := w.heap.setIfInBounds m (.map #[⟨.string id, .pointer (some ⟨r, 0, none⟩), 0⟩] 1) } := by
  unfold Nil at h
  have hf : Instr.findNow .string (.string id) [] 0 = some none := rfl
  simp [Instr.mapUpdate, run_underlying Try.underlying93, MapKept.run_getObj_map h, MapKept.run_checkKey Try.underlying9 (k := .string id) trivial, MapKept.run_findKey Try.underlying9 hf, MapKept.run_setObj_map _ h, Result.andThen]

set_option maxRecDepth 100000 in
set_option maxHeartbeats 1000000 in
theorem setRec_any (s r m : Nat) (S : Sum) (id : ByteArray) (w : World) (hs : Blk w s S.cells 96) (hm : S.mp = .map (some m)) (hn : Nil w m) :
    Calls Try.prog 38 #[.pointer (some ⟨s, 0, none⟩), .string id, .pointer (some ⟨r, 0, none⟩)] w fun e w' => e = .returned (.tuple #[]) ∧ One w' m id r ∧ Fr (· = m) w w' := by
  have c20 : w.cell? ⟨s, 20, none⟩ = some (.map (some m)) := by rw [← hm]; exact hs.cell rfl
  have hp := hn.put (r := r) (id := id)
  have hl := hn.lt
  have hO : One { w with heap := w.heap.setIfInBounds m (.map #[⟨.string id, .pointer (some ⟨r, 0, none⟩), 0⟩] 1) } m id r := by
    unfold One; simp [hl]
  have hF : Fr (· = m) w { w with heap := w.heap.setIfInBounds m (.map #[⟨.string id, .pointer (some ⟨r, 0, none⟩), 0⟩] 1) } :=
    ⟨rfl, rfl, rfl, by simp, fun k _ hk => by simp [Ne.symm hk]⟩
  revert hO hF hp
  generalize ({ w with heap := w.heap.setIfInBounds m (.map #[⟨.string id, .pointer (some ⟨r, 0, none⟩), 0⟩] 1) } : World) = w2
  intro hp hO hF
  clear hm hs hn
  go_enter Try.func38, Try.ntmps38
  go_wp2
  go_end0
  exact ⟨rfl, hO, hF⟩

set_option maxRecDepth 100000 in
set_option maxHeartbeats 1000000 in
theorem recOf_any (s r m : Nat) (S : Sum) (id : ByteArray) (w : World) (hs : Blk w s S.cells 96) (hm : S.mp = .map (some m)) (hn : One w m id r) :
    Calls Try.prog 24 #[.pointer (some ⟨s, 0, none⟩), .string id] w fun e w' => e = .returned (.tuple #[.pointer (some ⟨r, 0, none⟩), .bool true]) ∧ w' = w := by
  have c20 : w.cell? ⟨s, 20, none⟩ = some (.map (some m)) := by rw [← hm]; exact hs.cell rfl
  have hp := hn.look2
  clear hm hs hn
  go_enter Try.func24, Try.ntmps24
  go_wp2
  go_ret2
  exact ⟨rfl, rfl⟩

theorem clr30 (w : World) : ∀ ty, (Builtin.clear_ #[30] ty #[.slice none 0 0]).run Try.prog w = .ok (.tuple #[]) w := fun ty => by
  simp [Builtin.clear_, run_underlying Try.underlying30]

theorem Blk.same {w : World} {b : Nat} {cs : Array Value} {t : TypeId} (h : Blk w b cs t) {j : Nat} {v : Value} (hj : cs[j]? = some v) : Blk (w.setCell ⟨b, j, none⟩ v) b cs t := by
  have := h.set j v
  rwa [show cs.setIfInBounds j v = cs from by
    apply Array.ext_getElem?
    intro i
    by_cases e : j = i
    · subst e; rw [hj]; have := (Array.getElem?_eq_some_iff.1 hj).1; simp [this]
    · simp [e]] at this

set_option maxRecDepth 100000 in
set_option maxHeartbeats 1000000 in
theorem end_nil (s : Nat) (S : Sum) (w : World) (hs : Blk w s S.cells 96) (hf : S.fresh = .slice none 0 0) :
    Calls Try.prog 63 #[.pointer (some ⟨s, 0, none⟩)] w fun e w' => e = .returned (.tuple #[]) ∧ Blk w' s S.cells 96 ∧ Fr (· = s) w w' := by
  have c17 : w.cell? ⟨s, 17, none⟩ = some (.slice none 0 0) := by rw [← hf]; exact hs.cell rfl
  have f17 := hs.frozen 17
  have hB : Blk (w.setCell ⟨s, 17, none⟩ (.slice none 0 0)) s S.cells 96 := hs.same (by rw [← hf]; rfl)
  clear hf
  have hcl := clr30
  go_enter Try.func63, Try.ntmps63
  go_wp2
  go_loopw [9] (fun i wr => i = .int .i64 0 ∧ wr = w) (fun _ _ => 0)
  case atStart => exact ⟨rfl, rfl⟩
  case round =>
    obtain ⟨rfl, hw⟩ := hrel
    subst hw
    go_wp2_with (simp only [hcl])
    go_end0
    exact ⟨rfl, hB, (Fr.refl _ _).setAt _ _⟩

end Go.Proofs.Qxb6619458a
