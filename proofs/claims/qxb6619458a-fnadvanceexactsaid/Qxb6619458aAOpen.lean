import Derived.Test.Qxb6619458aAFits
import Derived.Test.Qxb6619458aOpen
namespace Go.Proofs.Qxb6619458a
open Go.ChangeShapes Go.WideShapes Go.ChangeAt Go.RowKit Go.Deep

theorem Try.cells42 : Try.prog.cellsOf 42 = 5 := by kernel_rfl
theorem Try.cells48 : Try.prog.cellsOf 48 = 2 := by kernel_rfl
theorem Try.cells9 : Try.prog.cellsOf 9 = 1 := by kernel_rfl
theorem Try.cells23 : Try.prog.cellsOf 23 = 1 := by kernel_rfl
theorem list5 {l : List Value} (h : l.length = 5) : ∃ a b c d e, l = [a, b, c, d, e] := by
  match l, h with
  | [a, b, c, d, e], _ => exact ⟨a, b, c, d, e, rfl⟩

section
variable {H : Type} {enc : TypeId × Value → H} {W : World}

/-- A slice whose elements open to a list of cells of which R holds. -/
theorem open_raw {α : Type} {t e size : Nat} {f : α → List Value} {R : α → Prop} (dflt : α) (ht : Try.prog.underlying t = some (.slice e)) (hc : Try.prog.cellsOf e = size)
    (hop : ∀ {fuel : Nat} {cs : List Value} {x : DataW H × List MemPlace}, DataW.trod enc Try.prog W 0 (fun _ => true) true fuel e cs = some x → ∃ d, cs = f d ∧ R d)
    (hlen : ∀ d, (f d).length = size) (hpos : 0 < size) {fuel : Nat} {cs : List Value} {x : DataW H × List MemPlace} (hf : DataW.trod enc Try.prog W 0 (fun _ => true) true fuel t cs = some x) :
    ∃ a n c, cs = [.slice a n c] ∧ n ≤ maxLen ∧ (n ≤ 0 ∨ ∃ b off, ∃ L : Nat → α, a = some ⟨b, off, none⟩ ∧ b < W.heap.size ∧ ∀ i, i < n → R (L i) ∧ ∀ j v, (f (L i))[j]? = some v → W.cell? ⟨b, off + i * size + j, none⟩ = some v) := by
  rcases open_slice ht hf with ⟨hcs, _⟩ | ⟨x, n, cap, m, k, D, Pl, hcs, _, hl, hm, hmm, _, hx⟩
  · exact ⟨none, 0, 0, hcs, Nat.zero_le _, .inl (Nat.le_refl _)⟩
  · simp only [if_true] at hmm
    subst hmm
    refine ⟨some x, n, m, hcs, by omega, ?_⟩
    by_cases h0 : n ≤ 0
    · exact .inl h0
    have key : ∀ i, i < n → ∃ r : α, R r ∧ ∀ j v, (f r)[j]? = some v → W.cell? (x.add (i * size + j)) = some v := by
      intro i hi
      obtain ⟨cs', h1, h2⟩ := hx i (by omega)
      obtain ⟨r, rfl, hR⟩ := hop h2
      refine ⟨r, hR, fun j v hj => ?_⟩
      rw [hc] at h1
      obtain ⟨_, _, hcc⟩ := World.cells?_some h1
      have hj5 : j < size := by
        have := (List.getElem?_eq_some_iff.1 hj).1
        rwa [hlen] at this
      have := hcc j hj5
      rw [add_add] at this
      rw [this]
      exact hj
    have hex : ∃ v, W.cell? (x.add 0) = some v := by
      obtain ⟨r, _, hr⟩ := key 0 (by omega)
      have hz : 0 < (f r).length := by rw [hlen]; exact hpos
      have := hr 0 _ (List.getElem?_eq_getElem hz)
      rw [Nat.zero_mul] at this
      exact ⟨_, this⟩
    obtain ⟨v0, hv0⟩ := hex
    have hsp : x.spot = none := by simpa [Addr.add] using World.cell?_spot hv0
    have hbl : x.block < W.heap.size := by simpa [Addr.add] using World.block_lt_of_cell? W _ hv0
    obtain ⟨b, off, spot⟩ := x
    simp only at hsp hbl
    subst hsp
    refine .inr ⟨b, off, fun i => if hi : i < n then Classical.choose (key i hi) else dflt, rfl, hbl, fun i hi => ?_⟩
    simp only [dif_pos hi]
    have hs := Classical.choose_spec (key i hi)
    refine ⟨hs.1, fun j v hj => ?_⟩
    have := hs.2 j v hj
    rw [add_plain] at this
    rwa [Nat.add_assoc]

theorem wf_wrap {v : Int} (h : (Lit.int .i64 v).wf = true) : wrap64 v = v := by
  simp only [Lit.wf, IntKind.min, IntKind.max, IntKind.signed, IntKind.bits, Bool.and_eq_true, decide_eq_true_eq, if_true] at h
  unfold wrap64
  omega

theorem open_I {fuel : Nat} {cs : List Value} {x : DataW H × List MemPlace} (hf : DataW.trod enc Try.prog W 0 (fun _ => true) true fuel 23 cs = some x) :
    ∃ a n c, cs = [.slice a n c] ∧ n ≤ maxLen ∧ ∃ f, IsI W a n f ∧ ∀ i, i < n → wrap64 (f i) = f i := by
  obtain ⟨a, n, c, h0, h1, h2⟩ := open_raw (f := fun v : Int => [Value.int .i64 v]) (R := fun v => wrap64 v = v) 0 Try.underlying23 Try.cells3
    (fun q => by obtain ⟨v, hv, _, hw⟩ := DataW.trod_int Try.underlying3 q; exact ⟨v, hv, wf_wrap hw⟩) (fun _ => rfl) (by omega) hf
  refine ⟨a, n, c, h0, h1, ?_⟩
  rcases h2 with h2 | ⟨b, off, L, ha, hb, hL⟩
  · exact ⟨fun _ => 0, .inl h2, fun i hi => by omega⟩
  · exact ⟨L, .inr ⟨b, off, ha, hb, fun i hi => by have := (hL i hi).2 0 _ rfl; rwa [Nat.mul_one, Nat.add_zero] at this⟩, fun i hi => (hL i hi).1⟩

theorem open_K {fuel : Nat} {cs : List Value} {x : DataW H × List MemPlace} (hf : DataW.trod enc Try.prog W 0 (fun _ => true) true fuel 25 cs = some x) :
    ∃ a n c, cs = [.slice a n c] ∧ n ≤ maxLen ∧ ∃ f, IsK W a n f ∧ WideK f n := by
  obtain ⟨a, n, c, h0, h1, h2⟩ := open_raw (f := fun v : ByteArray => [Value.string v]) (R := fun v => v.size ≤ maxLen) ByteArray.empty Try.underlying25 Try.cells9
    (fun q => by obtain ⟨v, hv, _, hw⟩ := DataW.trod_string Try.underlying9 q; exact ⟨v, hv, hw⟩) (fun _ => rfl) (by omega) hf
  refine ⟨a, n, c, h0, h1, ?_⟩
  rcases h2 with h2 | ⟨b, off, L, ha, hb, hL⟩
  · exact ⟨fun _ => ByteArray.empty, .inl h2, fun i hi => by omega⟩
  · exact ⟨L, .inr ⟨b, off, ha, hb, fun i hi => by have := (hL i hi).2 0 _ rfl; rwa [Nat.mul_one, Nat.add_zero] at this⟩, fun i hi => by have := (hL i hi).1; unfold maxLen at this; omega⟩

theorem open_ex {fuel : Nat} {cs : List Value} {x : DataW H × List MemPlace} (h : DataW.trod enc Try.prog W 0 (fun _ => true) true fuel 48 cs = some x) :
    ∃ q : Int × Int, cs = [.int .i64 q.1, .int .i64 q.2] ∧ True := by
  obtain ⟨xs, n, _, _, hl, hx, hf⟩ := DataW.trod_struct Try.underlying48 h
  rw [Try.cells48] at hl
  obtain ⟨v0, v1, rfl⟩ := list2 hl
  have hx5 : xs.length = 2 := hx
  have f0 : DataW.trod enc Try.prog W 0 (fun _ => true) true n 2 [v0] = xs[0]? := by have q := hf 0 _ rfl; simpa [Try.cells2] using q
  have f1 : DataW.trod enc Try.prog W 0 (fun _ => true) true n 3 [v1] = xs[1]? := by have q := hf 1 _ rfl; simpa [Try.cells3] using q
  rw [List.getElem?_eq_getElem (by omega)] at f0 f1
  obtain ⟨a0, e0, _⟩ := DataW.trod_int Try.underlying2 f0
  obtain ⟨a1, e1, _⟩ := DataW.trod_int Try.underlying3 f1
  simp only [List.cons.injEq, and_true] at e0 e1
  exact ⟨⟨a0, a1⟩, by rw [e0, e1], trivial⟩

theorem open_E {fuel : Nat} {cs : List Value} {x : DataW H × List MemPlace} (hf : DataW.trod enc Try.prog W 0 (fun _ => true) true fuel 24 cs = some x) :
    ∃ a n c, cs = [.slice a n c] ∧ n ≤ maxLen ∧ ∃ q, IsS W a n q := by
  obtain ⟨a, n, c, h0, h1, h2⟩ := open_raw (f := fun d : Int × Int => [Value.int .i64 d.1, .int .i64 d.2]) (R := fun _ => True) (0, 0) Try.underlying24 Try.cells48 (fun q => open_ex q) (fun _ => rfl) (by omega) hf
  refine ⟨a, n, c, h0, h1, ?_⟩
  rcases h2 with h2 | ⟨b, off, L, ha, hb, hL⟩
  · exact ⟨fun _ => (0, 0), .inl h2⟩
  · exact ⟨L, .inr ⟨b, off, ha, hb, fun i hi => (hL i hi).2 0 _ rfl, fun i hi => (hL i hi).2 1 _ rfl⟩⟩

/-- What is known of a record that came in. -/
def ArOk (W : World) (d : AR) : Prop := d.id.size ≤ maxLen ∧ d.tl ≤ maxLen ∧ d.ul ≤ maxLen ∧ (∃ f, IsI W d.ta d.tl f) ∧ ∃ f, IsI W d.ua d.ul f

theorem open_ar {fuel : Nat} {cs : List Value} {x : DataW H × List MemPlace} (h : DataW.trod enc Try.prog W 0 (fun _ => true) true fuel 42 cs = some x) :
    ∃ d : AR, cs = [.string d.id, .slice d.ta d.tl d.tc, .slice d.ua d.ul d.uc, .bool d.cl, .int .i64 d.h] ∧ ArOk W d := by
  obtain ⟨xs, n, _, _, hl, hx, hf⟩ := DataW.trod_struct Try.underlying42 h
  rw [Try.cells42] at hl
  obtain ⟨v0, v1, v2, v3, v4, rfl⟩ := list5 hl
  have hx5 : xs.length = 5 := hx
  have f0 : DataW.trod enc Try.prog W 0 (fun _ => true) true n 9 [v0] = xs[0]? := by have q := hf 0 _ rfl; simpa [Try.cells9] using q
  have f1 : DataW.trod enc Try.prog W 0 (fun _ => true) true n 23 [v1] = xs[1]? := by have q := hf 1 _ rfl; simpa [Try.cells23] using q
  have f2 : DataW.trod enc Try.prog W 0 (fun _ => true) true n 23 [v2] = xs[2]? := by have q := hf 2 _ rfl; simpa [Try.cells23] using q
  have f3 : DataW.trod enc Try.prog W 0 (fun _ => true) true n 4 [v3] = xs[3]? := by have q := hf 3 _ rfl; simpa [Try.cells4] using q
  have f4 : DataW.trod enc Try.prog W 0 (fun _ => true) true n 2 [v4] = xs[4]? := by have q := hf 4 _ rfl; simpa [Try.cells2] using q
  rw [List.getElem?_eq_getElem (by omega)] at f0 f1 f2 f3 f4
  obtain ⟨a0, e0, _, w0⟩ := DataW.trod_string Try.underlying9 f0
  obtain ⟨a1, n1, c1, e1, w1, T, hT, _⟩ := open_I f1
  obtain ⟨a2, n2, c2, e2, w2, U, hU, _⟩ := open_I f2
  obtain ⟨a3, e3, _⟩ := DataW.trod_bool Try.underlying4 f3
  obtain ⟨a4, e4, _⟩ := DataW.trod_int Try.underlying2 f4
  simp only [List.cons.injEq, and_true] at e0 e1 e2 e3 e4
  exact ⟨⟨a0, a1, n1, c1, a2, n2, c2, a3, a4⟩, by rw [e0, e1, e2, e3, e4], w0, w1, w2, ⟨T, hT⟩, ⟨U, hU⟩⟩

theorem open_A {fuel : Nat} {cs : List Value} {x : DataW H × List MemPlace} (hf : DataW.trod enc Try.prog W 0 (fun _ => true) true fuel 22 cs = some x) :
    ∃ a n c, cs = [.slice a n c] ∧ n ≤ maxLen ∧ ∃ A T U, IsA W a n A ∧ IsT W n A T ∧ IsU W n A U ∧ Wide A n := by
  obtain ⟨a, n, c, h0, h1, h2⟩ := open_raw (f := fun d : AR => [Value.string d.id, .slice d.ta d.tl d.tc, .slice d.ua d.ul d.uc, .bool d.cl, .int .i64 d.h]) (R := ArOk W) ⟨ByteArray.empty, none, 0, 0, none, 0, 0, false, 0⟩ Try.underlying22 Try.cells42 (fun q => open_ar q) (fun _ => rfl) (by omega) hf
  refine ⟨a, n, c, h0, h1, ?_⟩
  rcases h2 with h2 | ⟨b, off, L, ha, hb, hL⟩
  · exact ⟨fun _ => ⟨ByteArray.empty, none, 0, 0, none, 0, 0, false, 0⟩, fun _ _ => 0, fun _ _ => 0, .inl h2, fun i hi => by omega, fun i hi => by omega, fun i hi => by omega⟩
  · refine ⟨L, fun i => if hi : i < n then Classical.choose (hL i hi).1.2.2.2.1 else fun _ => 0, fun i => if hi : i < n then Classical.choose (hL i hi).1.2.2.2.2 else fun _ => 0,
      .inr ⟨b, off, ha, hb, fun i hi => (hL i hi).2 0 _ rfl, fun i hi => (hL i hi).2 1 _ rfl, fun i hi => (hL i hi).2 2 _ rfl, fun i hi => (hL i hi).2 3 _ rfl, fun i hi => (hL i hi).2 4 _ rfl⟩, fun i hi => ?_, fun i hi => ?_, fun i hi => ?_⟩
    · simp only [dif_pos hi]
      exact Classical.choose_spec (hL i hi).1.2.2.2.1
    · simp only [dif_pos hi]
      exact Classical.choose_spec (hL i hi).1.2.2.2.2
    · obtain ⟨q1, q2, q3, _⟩ := (hL i hi).1
      unfold maxLen at q1 q2 q3
      exact ⟨by omega, by omega, by omega⟩
end

end Go.Proofs.Qxb6619458a
