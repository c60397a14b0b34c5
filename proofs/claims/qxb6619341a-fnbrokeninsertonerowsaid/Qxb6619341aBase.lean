import Derived.Test.Qxb6619341aRows
import Derived.WalkKit
import Derived.WalkSpells
import Derived.WalkLawsBesides
namespace Go.Proofs.Qxb6619341a
open Go.RowKit

/-- One row, plainly. -/
structure R where
  s0 : ByteArray
  s1 : ByteArray
  s2 : ByteArray
  s3 : ByteArray
  h : Bool

/-- The first n rows of L: is any of them broken? -/
def brk (L : Nat → R) : Nat → Bool
  | 0 => false
  | k + 1 => brk L k || !(L k).h

def noRows (_ : Nat) : R := ⟨ByteArray.empty, ByteArray.empty, ByteArray.empty, ByteArray.empty, false⟩

/-- n rows lie in block b from 'off' on. -/
structure At (w : World) (b off n : Nat) (L : Nat → R) : Prop where
  c0 : ∀ i, i < n → w.cell? ⟨b, off + i * 5, none⟩ = some (.string (L i).s0)
  c1 : ∀ i, i < n → w.cell? ⟨b, off + i * 5 + 1, none⟩ = some (.string (L i).s1)
  c2 : ∀ i, i < n → w.cell? ⟨b, off + i * 5 + 2, none⟩ = some (.string (L i).s2)
  c3 : ∀ i, i < n → w.cell? ⟨b, off + i * 5 + 3, none⟩ = some (.string (L i).s3)
  c4 : ∀ i, i < n → w.cell? ⟨b, off + i * 5 + 4, none⟩ = some (.bool (L i).h)

theorem At.below {B : Nat} {w w' : World} {b off n : Nat} {L : Nat → R} (h : At w b off n L) (hb : Below B w w') (hlt : b < B) : At w' b off n L :=
  ⟨fun i hi => (hb.cell (p := ⟨b, _, none⟩) hlt).trans (h.c0 i hi), fun i hi => (hb.cell (p := ⟨b, _, none⟩) hlt).trans (h.c1 i hi), fun i hi => (hb.cell (p := ⟨b, _, none⟩) hlt).trans (h.c2 i hi),
   fun i hi => (hb.cell (p := ⟨b, _, none⟩) hlt).trans (h.c3 i hi), fun i hi => (hb.cell (p := ⟨b, _, none⟩) hlt).trans (h.c4 i hi)⟩

theorem ret_bool {a b : Bool} (h : a = b) : Ending.returned (.bool a) = .returned (.bool b) := by rw [h]

/-- The call gives back some bool. -/
def IsBool (e : Ending) : Prop := ∃ t : Bool, e = .returned (.bool t)
theorem IsBool.mk (t : Bool) : IsBool (.returned (.bool t)) := ⟨t, rfl⟩

end Go.Proofs.Qxb6619341a
