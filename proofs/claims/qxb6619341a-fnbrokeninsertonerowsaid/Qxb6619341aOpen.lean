import Derived.Test.Qxb6619341aBase
import Derived.ProofKit
import Derived.ShutString
import Derived.OpenShut
import Derived.ChangeOld
import Derived.Below
import Derived.Deep.Slices
namespace Go.Proofs.Qxb6619341a
open Go.ChangeShapes Go.WideShapes Go.ChangeAt Go.RowKit Go.Deep

theorem own : ownKnob Try.prog.godebug = none := by kernel_rfl
theorem laidOut : laidOutB Try.prog = true := by kernel_rfl
theorem Try.cells31 : Try.prog.cellsOf 31 = 5 := by kernel_rfl
theorem Try.cells9 : Try.prog.cellsOf 9 = 1 := by kernel_rfl
theorem Try.cells4 : Try.prog.cellsOf 4 = 1 := by kernel_rfl

theorem five {l : List Value} (h : l.length = 5) : ∃ a b c d e, l = [a, b, c, d, e] := by
  match l, h with
  | [a, b, c, d, e], _ => exact ⟨a, b, c, d, e, rfl⟩

section
variable {H : Type} {enc : TypeId × Value → H} {W : World} {base : Nat} {spare : Nat → Bool} {held : Bool}

/-- One row, opened. -/
theorem open_row {fuel : Nat} {cs : List Value} {x : DataW H × List MemPlace} (h : DataW.trod enc Try.prog W base spare held fuel 31 cs = some x) :
    ∃ r : R, cs = [.string r.s0, .string r.s1, .string r.s2, .string r.s3, .bool r.h] := by
  obtain ⟨xs, n, _, _, hl, hx, hf⟩ := DataW.trod_struct Try.underlying31 h
  rw [Try.cells31] at hl
  obtain ⟨v0, v1, v2, v3, v4, rfl⟩ := five hl
  have hx5 : xs.length = 5 := hx
  have f0 : DataW.trod enc Try.prog W base spare held n 9 [v0] = xs[0]? := by have q := hf 0 _ rfl; simpa [Try.cells9] using q
  have f1 : DataW.trod enc Try.prog W base spare held n 9 [v1] = xs[1]? := by have q := hf 1 _ rfl; simpa [Try.cells9] using q
  have f2 : DataW.trod enc Try.prog W base spare held n 9 [v2] = xs[2]? := by have q := hf 2 _ rfl; simpa [Try.cells9] using q
  have f3 : DataW.trod enc Try.prog W base spare held n 9 [v3] = xs[3]? := by have q := hf 3 _ rfl; simpa [Try.cells9] using q
  have f4 : DataW.trod enc Try.prog W base spare held n 4 [v4] = xs[4]? := by have q := hf 4 _ rfl; simpa [Try.cells4] using q
  rw [List.getElem?_eq_getElem (by omega)] at f0 f1 f2 f3 f4
  obtain ⟨s0, e0, _⟩ := DataW.trod_string Try.underlying9 f0
  obtain ⟨s1, e1, _⟩ := DataW.trod_string Try.underlying9 f1
  obtain ⟨s2, e2, _⟩ := DataW.trod_string Try.underlying9 f2
  obtain ⟨s3, e3, _⟩ := DataW.trod_string Try.underlying9 f3
  obtain ⟨t4, e4, _⟩ := DataW.trod_bool Try.underlying4 f4
  simp only [List.cons.injEq, and_true] at e0 e1 e2 e3 e4
  exact ⟨⟨s0, s1, s2, s3, t4⟩, by rw [e0, e1, e2, e3, e4]⟩

/-- What a walk is told of the rows that came in: nil or empty; or they lie in a block that is there. -/
def IsRows (w : World) (a : Option Addr) (n c : Nat) : Prop :=
  (a = none ∧ n = 0 ∧ c = 0) ∨ (∃ x, a = some x ∧ n = 0 ∧ c = 0) ∨
  ∃ (b off : Nat) (L : Nat → R), a = some ⟨b, off, none⟩ ∧ n ≤ c ∧ c ≤ maxLen ∧ b < w.heap.size ∧ At w b off n L

theorem open_rows {a : Option Addr} {n c : Nat} {d : DataW H} {p : List MemPlace} (h : DataW.Trod enc Try.prog W 0 (fun _ => true) true 22 (.slice a n c) d p) : IsRows W a n c := by
  obtain ⟨fuel, hf⟩ := h
  rcases open_slice Try.underlying22 hf with ⟨hcs, _⟩ | ⟨x, len, cap, m, k, D, Pl, hcs, _, hl, hm, hmm, _, hx⟩
  · simp [Value.cells] at hcs
    exact .inl hcs
  · simp [Value.cells] at hcs
    obtain ⟨rfl, rfl, rfl⟩ := hcs
    simp only [if_true] at hmm
    subst hmm
    by_cases h0 : m = 0
    · subst h0
      exact .inr (.inl ⟨_, rfl, by omega, rfl⟩)
    have key : ∀ i, i < m → ∃ r : R, ∀ j v, [Value.string r.s0, .string r.s1, .string r.s2, .string r.s3, .bool r.h][j]? = some v → W.cell? (x.add (i * 5 + j)) = some v := by
      intro i hi
      obtain ⟨cs', h1, h2⟩ := hx i hi
      obtain ⟨r, rfl⟩ := open_row h2
      refine ⟨r, fun j v hj => ?_⟩
      rw [Try.cells31] at h1
      obtain ⟨_, _, hc⟩ := World.cells?_some h1
      have hj5 : j < 5 := by
        have := (List.getElem?_eq_some_iff.1 hj).1
        simpa using this
      have := hc j hj5
      rw [add_add] at this
      rw [this]
      exact hj
    have hsp : x.spot = none := by
      obtain ⟨r, hr⟩ := key 0 (by omega)
      have := hr 0 _ rfl
      simpa [Addr.add] using World.cell?_spot this
    obtain ⟨b, off, spot⟩ := x
    simp only at hsp
    subst hsp
    have hbl : b < W.heap.size := by
      obtain ⟨r, hr⟩ := key 0 (by omega)
      have := World.block_lt_of_cell? W _ (hr 0 _ rfl)
      simpa [Addr.add] using this
    obtain ⟨L, hL⟩ : ∃ L : Nat → R, ∀ i, i < m → ∀ j v, [Value.string (L i).s0, .string (L i).s1, .string (L i).s2, .string (L i).s3, .bool (L i).h][j]? = some v → W.cell? ⟨b, off + i * 5 + j, none⟩ = some v := by
      refine ⟨fun i => if hi : i < m then Classical.choose (key i hi) else ⟨ByteArray.empty, ByteArray.empty, ByteArray.empty, ByteArray.empty, false⟩, fun i hi j v => ?_⟩
      simp only [dif_pos hi]
      intro hj
      have := Classical.choose_spec (key i hi) j v hj
      rw [add_plain] at this
      rwa [Nat.add_assoc]
    exact .inr (.inr ⟨b, off, L, rfl, hl, hm, hbl, fun i hi => hL i (by omega) 0 _ rfl, fun i hi => hL i (by omega) 1 _ rfl, fun i hi => hL i (by omega) 2 _ rfl, fun i hi => hL i (by omega) 3 _ rfl, fun i hi => hL i (by omega) 4 _ rfl⟩)
end

end Go.Proofs.Qxb6619341a
