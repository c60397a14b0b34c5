import Derived.Test.Qxb6619458aMem
import Derived.ProofKit
import Derived.ShutString
import Derived.OpenShut
import Derived.ChangeOld
import Derived.Below
import Derived.Deep.Slices
namespace Go.Proofs.Qxb6619458a
open Go.ChangeShapes Go.WideShapes Go.ChangeAt Go.RowKit Go.Deep

theorem own : ownKnob Try.prog.godebug = none := by kernel_rfl
theorem laidOut : laidOutB Try.prog = true := by kernel_rfl
theorem Try.cells66 : Try.prog.cellsOf 66 = 6 := by kernel_rfl
theorem Try.cells70 : Try.prog.cellsOf 70 = 10 := by kernel_rfl
theorem Try.cells82 : Try.prog.cellsOf 82 = 2 := by kernel_rfl
theorem Try.cells2 : Try.prog.cellsOf 2 = 1 := by kernel_rfl
theorem Try.cells3 : Try.prog.cellsOf 3 = 1 := by kernel_rfl
theorem Try.cells4 : Try.prog.cellsOf 4 = 1 := by kernel_rfl

theorem list2 {l : List Value} (h : l.length = 2) : ∃ a b, l = [a, b] := by
  match l, h with
  | [a, b], _ => exact ⟨a, b, rfl⟩
theorem list6 {l : List Value} (h : l.length = 6) : ∃ a b c d e f, l = [a, b, c, d, e, f] := by
  match l, h with
  | [a, b, c, d, e, f], _ => exact ⟨a, b, c, d, e, f, rfl⟩
theorem list10 {l : List Value} (h : l.length = 10) : ∃ a b c d e f g i j k, l = [a, b, c, d, e, f, g, i, j, k] := by
  match l, h with
  | [a, b, c, d, e, f, g, i, j, k], _ => exact ⟨a, b, c, d, e, f, g, i, j, k, rfl⟩

section
variable {H : Type} {enc : TypeId × Value → H} {W : World} {base : Nat} {spare : Nat → Bool} {held : Bool}

theorem open_lat {fuel : Nat} {cs : List Value} {x : DataW H × List MemPlace} (h : DataW.trod enc Try.prog W base spare held fuel 66 cs = some x) :
    ∃ l : Lat, cs = [.int .i64 l.l0, .int .i64 l.l1, .bool l.la, .int .i64 l.f0, .int .i64 l.f1, .bool l.fa] := by
  obtain ⟨xs, n, _, _, hl, hx, hf⟩ := DataW.trod_struct Try.underlying66 h
  rw [Try.cells66] at hl
  obtain ⟨v0, v1, v2, v3, v4, v5, rfl⟩ := list6 hl
  have hx5 : xs.length = 6 := hx
  have f0 : DataW.trod enc Try.prog W base spare held n 2 [v0] = xs[0]? := by have q := hf 0 _ rfl; simpa [Try.cells2] using q
  have f1 : DataW.trod enc Try.prog W base spare held n 2 [v1] = xs[1]? := by have q := hf 1 _ rfl; simpa [Try.cells2] using q
  have f2 : DataW.trod enc Try.prog W base spare held n 4 [v2] = xs[2]? := by have q := hf 2 _ rfl; simpa [Try.cells4] using q
  have f3 : DataW.trod enc Try.prog W base spare held n 2 [v3] = xs[3]? := by have q := hf 3 _ rfl; simpa [Try.cells2] using q
  have f4 : DataW.trod enc Try.prog W base spare held n 2 [v4] = xs[4]? := by have q := hf 4 _ rfl; simpa [Try.cells2] using q
  have f5 : DataW.trod enc Try.prog W base spare held n 4 [v5] = xs[5]? := by have q := hf 5 _ rfl; simpa [Try.cells4] using q
  rw [List.getElem?_eq_getElem (by omega)] at f0 f1 f2 f3 f4 f5
  obtain ⟨a0, e0, _⟩ := DataW.trod_int Try.underlying2 f0
  obtain ⟨a1, e1, _⟩ := DataW.trod_int Try.underlying2 f1
  obtain ⟨a2, e2, _⟩ := DataW.trod_bool Try.underlying4 f2
  obtain ⟨a3, e3, _⟩ := DataW.trod_int Try.underlying2 f3
  obtain ⟨a4, e4, _⟩ := DataW.trod_int Try.underlying2 f4
  obtain ⟨a5, e5, _⟩ := DataW.trod_bool Try.underlying4 f5
  simp only [List.cons.injEq, and_true] at e0 e1 e2 e3 e4 e5
  exact ⟨⟨a0, a1, a2, a3, a4, a5⟩, by rw [e0, e1, e2, e3, e4, e5]⟩

theorem open_dr {fuel : Nat} {cs : List Value} {x : DataW H × List MemPlace} (h : DataW.trod enc Try.prog W base spare held fuel 70 cs = some x) :
    ∃ d : DR, cs = [.bool d.cl, .bool d.de, .bool d.ev, .int .i64 d.lat.l0, .int .i64 d.lat.l1, .bool d.lat.la, .int .i64 d.lat.f0, .int .i64 d.lat.f1, .bool d.lat.fa, .int .i64 d.h] := by
  obtain ⟨xs, n, _, _, hl, hx, hf⟩ := DataW.trod_struct Try.underlying70 h
  rw [Try.cells70] at hl
  obtain ⟨v0, v1, v2, v3, v4, v5, v6, v7, v8, v9, rfl⟩ := list10 hl
  have hx5 : xs.length = 5 := hx
  have f0 : DataW.trod enc Try.prog W base spare held n 4 [v0] = xs[0]? := by have q := hf 0 _ rfl; simpa [Try.cells4] using q
  have f1 : DataW.trod enc Try.prog W base spare held n 4 [v1] = xs[1]? := by have q := hf 1 _ rfl; simpa [Try.cells4] using q
  have f2 : DataW.trod enc Try.prog W base spare held n 4 [v2] = xs[2]? := by have q := hf 2 _ rfl; simpa [Try.cells4] using q
  have f3 : DataW.trod enc Try.prog W base spare held n 66 [v3, v4, v5, v6, v7, v8] = xs[3]? := by have q := hf 3 _ rfl; simpa [Try.cells66] using q
  have f4 : DataW.trod enc Try.prog W base spare held n 2 [v9] = xs[4]? := by have q := hf 4 _ rfl; simpa [Try.cells2] using q
  rw [List.getElem?_eq_getElem (by omega)] at f0 f1 f2 f3 f4
  obtain ⟨a0, e0, _⟩ := DataW.trod_bool Try.underlying4 f0
  obtain ⟨a1, e1, _⟩ := DataW.trod_bool Try.underlying4 f1
  obtain ⟨a2, e2, _⟩ := DataW.trod_bool Try.underlying4 f2
  obtain ⟨l, e3⟩ := open_lat f3
  obtain ⟨a4, e4, _⟩ := DataW.trod_int Try.underlying2 f4
  simp only [List.cons.injEq, and_true] at e0 e1 e2 e3 e4
  obtain ⟨k3, k4, k5, k6, k7, k8⟩ := e3
  exact ⟨⟨a0, a1, a2, l, a4⟩, by rw [e0, e1, e2, k3, k4, k5, k6, k7, k8, e4]⟩

theorem open_st {fuel : Nat} {cs : List Value} {x : DataW H × List MemPlace} (h : DataW.trod enc Try.prog W base spare held fuel 82 cs = some x) :
    ∃ q : Int × Int, cs = [.int .i64 q.1, .int .i64 q.2] := by
  obtain ⟨xs, n, _, _, hl, hx, hf⟩ := DataW.trod_struct Try.underlying82 h
  rw [Try.cells82] at hl
  obtain ⟨v0, v1, rfl⟩ := list2 hl
  have hx5 : xs.length = 2 := hx
  have f0 : DataW.trod enc Try.prog W base spare held n 3 [v0] = xs[0]? := by have q := hf 0 _ rfl; simpa [Try.cells3] using q
  have f1 : DataW.trod enc Try.prog W base spare held n 2 [v1] = xs[1]? := by have q := hf 1 _ rfl; simpa [Try.cells2] using q
  rw [List.getElem?_eq_getElem (by omega)] at f0 f1
  obtain ⟨a0, e0, _⟩ := DataW.trod_int Try.underlying3 f0
  obtain ⟨a1, e1, _⟩ := DataW.trod_int Try.underlying2 f1
  simp only [List.cons.injEq, and_true] at e0 e1
  exact ⟨⟨a0, a1⟩, by rw [e0, e1]⟩

/-- A slice of whatever element that opens to a list of cells: its elements by the index. -/
theorem open_elems {α : Type} {t e size : Nat} {f : α → List Value} (dflt : α) (ht : Try.prog.underlying t = some (.slice e)) (hc : Try.prog.cellsOf e = size)
    (hop : ∀ {fuel : Nat} {cs : List Value} {x : DataW H × List MemPlace}, DataW.trod enc Try.prog W 0 (fun _ => true) true fuel e cs = some x → ∃ d, cs = f d)
    (hlen : ∀ d, (f d).length = size) (hpos : 0 < size) {a : Option Addr} {n c : Nat} {d : DataW H} {p : List MemPlace} (h : DataW.Trod enc Try.prog W 0 (fun _ => true) true t (.slice a n c) d p) :
    n ≤ maxLen ∧ (n ≤ 0 ∨ ∃ b off, ∃ L : Nat → α, a = some ⟨b, off, none⟩ ∧ b < W.heap.size ∧ ∀ i, i < n → ∀ j v, (f (L i))[j]? = some v → W.cell? ⟨b, off + i * size + j, none⟩ = some v) := by
  obtain ⟨fuel, hf⟩ := h
  rcases open_slice ht hf with ⟨hcs, _⟩ | ⟨x, len, cap, m, k, D, Pl, hcs, _, hl, hm, hmm, _, hx⟩
  · simp [Value.cells] at hcs
    obtain ⟨_, rfl, _⟩ := hcs
    exact ⟨Nat.zero_le _, .inl (Nat.le_refl _)⟩
  · simp [Value.cells] at hcs
    obtain ⟨rfl, rfl, rfl⟩ := hcs
    simp only [if_true] at hmm
    subst hmm
    refine ⟨by omega, ?_⟩
    by_cases h0 : n ≤ 0
    · exact .inl h0
    have key : ∀ i, i < n → ∃ r : α, ∀ j v, (f r)[j]? = some v → W.cell? (x.add (i * size + j)) = some v := by
      intro i hi
      obtain ⟨cs', h1, h2⟩ := hx i (by omega)
      obtain ⟨r, rfl⟩ := hop h2
      refine ⟨r, fun j v hj => ?_⟩
      rw [hc] at h1
      obtain ⟨_, _, hcc⟩ := World.cells?_some h1
      have hj5 : j < size := by
        have := (List.getElem?_eq_some_iff.1 hj).1
        rwa [hlen] at this
      have := hcc j hj5
      rw [add_add] at this
      rw [this]
      exact hj
    have hex : ∃ v, W.cell? (x.add 0) = some v := by
      obtain ⟨r, hr⟩ := key 0 (by omega)
      have hz : 0 < (f r).length := by rw [hlen]; exact hpos
      have := hr 0 _ (List.getElem?_eq_getElem hz)
      rw [Nat.zero_mul] at this
      exact ⟨_, this⟩
    obtain ⟨v0, hv0⟩ := hex
    have hsp : x.spot = none := by simpa [Addr.add] using World.cell?_spot hv0
    have hbl : x.block < W.heap.size := by simpa [Addr.add] using World.block_lt_of_cell? W _ hv0
    obtain ⟨b, off, spot⟩ := x
    simp only at hsp hbl
    subst hsp
    refine .inr ⟨b, off, fun i => if hi : i < n then Classical.choose (key i hi) else dflt, rfl, hbl, fun i hi j v => ?_⟩
    simp only [dif_pos hi]
    intro hj
    have := Classical.choose_spec (key i hi) j v hj
    rw [add_plain] at this
    rwa [Nat.add_assoc]

theorem open_D {a : Option Addr} {n c : Nat} {d : DataW H} {p : List MemPlace} (h : DataW.Trod enc Try.prog W 0 (fun _ => true) true 77 (.slice a n c) d p) : n ≤ maxLen ∧ ∃ D, IsD W a n D := by
  obtain ⟨h1, h2⟩ := open_elems (f := fun d : DR => [Value.bool d.cl, .bool d.de, .bool d.ev, .int .i64 d.lat.l0, .int .i64 d.lat.l1, .bool d.lat.la, .int .i64 d.lat.f0, .int .i64 d.lat.f1, .bool d.lat.fa, .int .i64 d.h])
    (⟨false, false, false, Lat.zero, 0⟩ : DR) Try.underlying77 Try.cells70 (fun q => open_dr q) (fun _ => rfl) (by omega) h
  refine ⟨h1, ?_⟩
  rcases h2 with h2 | ⟨b, off, L, ha, hb, hL⟩
  · exact ⟨fun _ => ⟨false, false, false, Lat.zero, 0⟩, .inl h2⟩
  · exact ⟨L, .inr ⟨b, off, ha, hb, fun i hi => hL i hi 0 _ rfl, fun i hi => hL i hi 1 _ rfl, fun i hi => hL i hi 2 _ rfl, fun i hi => hL i hi 3 _ rfl, fun i hi => hL i hi 4 _ rfl, fun i hi => hL i hi 5 _ rfl, fun i hi => hL i hi 6 _ rfl, fun i hi => hL i hi 7 _ rfl, fun i hi => hL i hi 8 _ rfl, fun i hi => hL i hi 9 _ rfl⟩⟩

theorem open_S {a : Option Addr} {n c : Nat} {d : DataW H} {p : List MemPlace} (h : DataW.Trod enc Try.prog W 0 (fun _ => true) true 78 (.slice a n c) d p) : n ≤ maxLen ∧ ∃ q, IsS W a n q := by
  obtain ⟨h1, h2⟩ := open_elems (f := fun d : Int × Int => [Value.int .i64 d.1, .int .i64 d.2]) (0, 0) Try.underlying78 Try.cells82 (fun q => open_st q) (fun _ => rfl) (by omega) h
  refine ⟨h1, ?_⟩
  rcases h2 with h2 | ⟨b, off, L, ha, hb, hL⟩
  · exact ⟨fun _ => (0, 0), .inl h2⟩
  · exact ⟨L, .inr ⟨b, off, ha, hb, fun i hi => hL i hi 0 _ rfl, fun i hi => hL i hi 1 _ rfl⟩⟩

set_option maxRecDepth 100000 in
theorem open_latv {b0 : Nat} {rr : Reach} {v : Value} {d : DataW H} {p : List MemPlace} (hv : Value.okWide Try.prog W rr b0 66 v) (h : DataW.Trod enc Try.prog W base spare held 66 v d p) : ∃ l : Lat, v = .agg l.cells := by
  obtain ⟨cs, rfl, hsz⟩ := okWide_struct Try.underlying66 hv
  obtain ⟨fuel, hf⟩ := h
  obtain ⟨l, hr⟩ := open_lat hf
  refine ⟨l, ?_⟩
  simp only [Value.cells] at hr
  rw [← Array.toArray_toList (xs := cs), hr]
  rfl
end

end Go.Proofs.Qxb6619458a
