import Derived.Test.Qxb6619458aRows
import Derived.WalkKit
import Derived.WalkSpells
import Derived.WalkLawsBesides
import Derived.Deep.OwnRows
namespace Go.Proofs.Qxb6619458a
open Go.RowKit

/-- Latencies: a leader's span, a follower's. -/
structure Lat where
  l0 : Int
  l1 : Int
  la : Bool
  f0 : Int
  f1 : Int
  fa : Bool

def Lat.zero : Lat := ⟨0, 0, false, 0, 0, false⟩

/-- A record's cells that matter here. -/
structure Rec where
  id : ByteArray
  tos : Value
  un : Value
  cl : Bool
  de : Bool
  ev : Bool
  lat : Lat
  h : Int

def Rec.cells (r : Rec) : Array Value :=
  #[.string r.id, .int .i64 0, .string ByteArray.empty, r.tos, r.un, .bool r.cl, .bool r.de, .bool r.ev,
    .int .i64 r.lat.l0, .int .i64 r.lat.l1, .bool r.lat.la, .int .i64 r.lat.f0, .int .i64 r.lat.f1, .bool r.lat.fa, .int .i64 r.h]

/-- A summary's cells. -/
structure Sum where
  linger : Int
  free : Lat
  fm : Int
  now : Int
  fresh : Value
  last : Value
  opn : Value
  mp : Value
  ex : Value

def Sum.cells (s : Sum) : Array Value :=
  #[.int .i64 s.linger, .int .i64 0, .int .i64 0, .int .i64 0, .int .i64 0, .bool false, .int .i64 0, .int .i64 0, .bool false,
    .int .i64 s.free.l0, .int .i64 s.free.l1, .bool s.free.la, .int .i64 s.free.f0, .int .i64 s.free.f1, .bool s.free.fa,
    .int .i64 s.fm, .int .i64 s.now, s.fresh, s.last, s.opn, s.mp, s.ex]

/-- Block b holds just these cells, none frozen. -/
def Blk (w : World) (b : Nat) (cs : Array Value) (t : TypeId) : Prop := w.heap[b]? = some (.cells cs t (0, 0))

theorem Blk.lt {w : World} {b : Nat} {cs : Array Value} {t : TypeId} (h : Blk w b cs t) : b < w.heap.size := (Array.getElem?_eq_some_iff.1 h).1
theorem Blk.cell {w : World} {b : Nat} {cs : Array Value} {t : TypeId} (h : Blk w b cs t) {j : Nat} {v : Value} (hj : cs[j]? = some v) : w.cell? ⟨b, j, none⟩ = some v := by
  unfold Blk at h
  simp [World.cell?, h, hj]
theorem Blk.frozen {w : World} {b : Nat} {cs : Array Value} {t : TypeId} (h : Blk w b cs t) (j : Nat) : w.frozen? ⟨b, j, none⟩ = false := by
  unfold Blk at h
  simp [World.frozen?, h]
theorem Blk.set {w : World} {b : Nat} {cs : Array Value} {t : TypeId} (h : Blk w b cs t) (j : Nat) (v : Value) : Blk (w.setCell ⟨b, j, none⟩ v) b (cs.setIfInBounds j v) t := by
  unfold Blk at h ⊢
  simp [World.setCell, Array.getElem?_modify, h]
theorem Blk.other {w : World} {b : Nat} {cs : Array Value} {t : TypeId} (h : Blk w b cs t) {a : Addr} (ha : b ≠ a.block) (v : Value) : Blk (w.setCell a v) b cs t := by
  unfold Blk at h ⊢
  rw [Below.heap_setCell _ _ _ _ ha]; exact h
theorem Blk.alloc {w : World} {b : Nat} {cs : Array Value} {t : TypeId} (h : Blk w b cs t) (o : Obj) : Blk (w.alloc o) b cs t := by
  have hl := h.lt
  unfold Blk at h ⊢
  rw [Below.heap_alloc _ _ _ hl]; exact h
theorem Blk.drew {w : World} {b : Nat} {cs : Array Value} {t : TypeId} (h : Blk w b cs t) : Blk w.drew b cs t := h
theorem Blk.new (w : World) (cs : Array Value) (t : TypeId) : Blk (w.alloc (.cells cs t)) w.heap.size cs t := heap_alloc_new w _

/-- All old blocks are as they were, but for those that O names. -/
structure Fr (O : Nat → Prop) (w w' : World) : Prop where
  os : w'.os = w.os
  tape : w'.tape = w.tape
  output : w'.output = w.output
  size : w.heap.size ≤ w'.heap.size
  block : ∀ k, k < w.heap.size → ¬ O k → w'.heap[k]? = w.heap[k]?

theorem Fr.refl (O : Nat → Prop) (w : World) : Fr O w w := ⟨rfl, rfl, rfl, Nat.le_refl _, fun _ _ _ => rfl⟩
theorem Fr.trans {O O' : Nat → Prop} {a b c : World} (h : Fr O a b) (k : Fr O' b c) (hO : ∀ i, i < a.heap.size → O' i → O i) : Fr O a c :=
  ⟨k.os.trans h.os, k.tape.trans h.tape, k.output.trans h.output, Nat.le_trans h.size k.size, fun i hi hn => (k.block i (Nat.lt_of_lt_of_le hi h.size) (fun q => hn (hO i hi q))).trans (h.block i hi hn)⟩
theorem Fr.mono {O O' : Nat → Prop} {a b : World} (h : Fr O a b) (hO : ∀ i, i < a.heap.size → O i → O' i) : Fr O' a b :=
  ⟨h.os, h.tape, h.output, h.size, fun i hi hn => h.block i hi (fun q => hn (hO i hi q))⟩
theorem Fr.drew {O : Nat → Prop} {a b : World} (h : Fr O a b) : Fr O a b.drew := ⟨h.os, h.tape, h.output, h.size, h.block⟩
theorem Fr.alloc {O : Nat → Prop} {a b : World} (h : Fr O a b) (o : Obj) : Fr O a (b.alloc o) :=
  ⟨h.os, h.tape, h.output, Nat.le_trans h.size (by simp), fun i hi hn => (Below.heap_alloc _ _ _ (Nat.lt_of_lt_of_le hi h.size)).trans (h.block i hi hn)⟩
theorem Fr.setCell {O : Nat → Prop} {a b : World} (h : Fr O a b) {p : Addr} (hp : O p.block ∨ a.heap.size ≤ p.block) (v : Value) : Fr O a (b.setCell p v) :=
  ⟨h.os, h.tape, h.output, by simpa [World.setCell] using h.size, fun i hi hn => by
    have hne : i ≠ p.block := by
      intro e
      subst e
      rcases hp with hp | hp
      · exact hn hp
      · omega
    rw [Below.heap_setCell _ _ _ _ hne]
    exact h.block i hi hn⟩
theorem Fr.below {a b : World} (h : Fr (fun _ => False) a b) : Below a.heap.size a b := ⟨h.os, h.tape, h.output, h.size, fun k hk => h.block k hk (fun q => q)⟩
theorem Fr.ofBelow {O : Nat → Prop} {a b : World} (h : Below a.heap.size a b) : Fr O a b := ⟨h.os, h.tape, h.output, h.size, fun k hk _ => h.block k hk⟩
theorem Blk.fr {O : Nat → Prop} {w w' : World} {b : Nat} {cs : Array Value} {t : TypeId} (h : Blk w b cs t) (f : Fr O w w') (hn : ¬ O b) : Blk w' b cs t := by
  have hl := h.lt
  unfold Blk at h ⊢
  rw [f.block b hl hn]; exact h
theorem Blk.below {w w' : World} {b : Nat} {cs : Array Value} {t : TypeId} (h : Blk w b cs t) (f : Below w.heap.size w w') : Blk w' b cs t := by
  have hl := h.lt
  unfold Blk at h ⊢
  rw [f.block b hl]; exact h

theorem ret_bool {a b : Bool} (h : a = b) : Ending.returned (.bool a) = .returned (.bool b) := by rw [h]
theorem chain {a b c : World} (h : Below a.heap.size a b) (k : Below b.heap.size b c) : Below a.heap.size a c := h.trans (k.mono h.size)

/-- The call gives back some bool. -/
def IsBool (e : Ending) (p : Prop) : Prop := ∃ t : Bool, e = .returned (.bool t) ∧ (t = true → p)
theorem IsBool.mk (t : Bool) (p : Prop) (h : t = true → p) : IsBool (.returned (.bool t)) p := ⟨t, rfl, h⟩

end Go.Proofs.Qxb6619458a
