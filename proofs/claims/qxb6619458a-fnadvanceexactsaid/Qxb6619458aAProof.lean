import Derived.Test.Qxb6619458aAMain
import Derived.Test.Qxb6619458aAOpen
namespace Go.Proofs.Qxb6619458a
open Go.ChangeShapes Go.WideShapes Go.ChangeAt Go.RowKit

set_option maxRecDepth 100000 in
theorem advance_lifted (os : Os) (started : os.Started) (H : Type) (enc : TypeId × Value → H) :
    ReturnsInHanded {} Try.checked os 3 .any (Rows.fnAdvanceExactSpec.pre6 enc Try.prog Try.f3 Rows.fnAdvanceExactRow.domain false) (Rows.fnAdvanceExactSpec.post enc Try.prog Try.f3 false true false false) := by
  refine returnsInHanded_of_change (C := Try.checked) own started (by kernel_rfl) Try.func3
    (ChangeSpec.witness6 (enc := enc) (C := Try.checked) false ⟨#[], #[.int .i64 0, .int .i64 0, .slice none 0 0, .slice none 0 0, .slice none 0 0, .slice none 0 0, .slice none 0 0, .slice none 0 0, .slice none 0 0, .int .i64 0], []⟩ 8 (by kernel_rfl) (by kernel_rfl) (by kernel_rfl) (by kernel_rfl)) ?_
  intro W base args ds gs before hval0 hW hcnd _
  have hval : ∀ (j : Nat) t v, Try.f3.params[j]? = some t → args[j]? = some v → Value.okWide Try.prog W .any base t v := hval0
  have hW' := hW
  obtain ⟨p, q, hA0, hV, rfl, hfz, hnd⟩ := hW
  have hA : DataW.TrodAll enc Try.prog W 0 (fun _ => true) true Try.f3.params.toList args.toList ds p := hA0
  rw [Try.params3] at hA hval
  obtain ⟨v0, vs0, d0, ds0, p0, q0, hargs, rfl, rfl, h0, r0⟩ := trodAll_cons hA
  obtain ⟨v1, vs1, d1, ds1, p1, q1, rfl, rfl, rfl, h1, r1⟩ := trodAll_cons r0
  obtain ⟨v2, vs2, d2, ds2, p2, q2, rfl, rfl, rfl, h2, r2⟩ := trodAll_cons r1
  obtain ⟨v3, vs3, d3, ds3, p3, q3, rfl, rfl, rfl, h3, r3⟩ := trodAll_cons r2
  obtain ⟨v4, vs4, d4, ds4, p4, q4, rfl, rfl, rfl, h4, r4⟩ := trodAll_cons r3
  obtain ⟨v5, vs5, d5, ds5, p5, q5, rfl, rfl, rfl, h5, r5⟩ := trodAll_cons r4
  obtain ⟨v6, vs6, d6, ds6, p6, q6, rfl, rfl, rfl, h6, r6⟩ := trodAll_cons r5
  obtain ⟨v7, vs7, d7, ds7, p7, q7, rfl, rfl, rfl, h7, r7⟩ := trodAll_cons r6
  obtain ⟨v8, vs8, d8, ds8, p8, q8, rfl, rfl, rfl, h8, r8⟩ := trodAll_cons r7
  obtain ⟨v9, vs9, d9, ds9, p9, q9, rfl, rfl, rfl, h9, r9⟩ := trodAll_cons r8
  obtain ⟨rfl, rfl, rfl⟩ := trodAll_nil r9
  obtain rfl : args = #[v0, v1, v2, v3, v4, v5, v6, v7, v8, v9] := by cases args; simp_all
  obtain ⟨rfl, rfl⟩ := trodVars_none hV
  have k2 := h2
  have lt2 : ∀ x ∈ p2, x.block < W.heap.size := by obtain ⟨m, hm⟩ := k2; exact DataW.trod_lt m _ _ _ hm
  have k3 := h3
  have lt3 : ∀ x ∈ p3, x.block < W.heap.size := by obtain ⟨m, hm⟩ := k3; exact DataW.trod_lt m _ _ _ hm
  have k4 := h4
  have lt4 : ∀ x ∈ p4, x.block < W.heap.size := by obtain ⟨m, hm⟩ := k4; exact DataW.trod_lt m _ _ _ hm
  have k5 := h5
  have lt5 : ∀ x ∈ p5, x.block < W.heap.size := by obtain ⟨m, hm⟩ := k5; exact DataW.trod_lt m _ _ _ hm
  have k6 := h6
  have lt6 : ∀ x ∈ p6, x.block < W.heap.size := by obtain ⟨m, hm⟩ := k6; exact DataW.trod_lt m _ _ _ hm
  have k7 := h7
  have lt7 : ∀ x ∈ p7, x.block < W.heap.size := by obtain ⟨m, hm⟩ := k7; exact DataW.trod_lt m _ _ _ hm
  have k8 := h8
  have lt8 : ∀ x ∈ p8, x.block < W.heap.size := by obtain ⟨m, hm⟩ := k8; exact DataW.trod_lt m _ _ _ hm
  obtain ⟨fuel2, hf2⟩ := h2
  obtain ⟨fuel3, hf3⟩ := h3
  obtain ⟨fuel4, hf4⟩ := h4
  obtain ⟨fuel5, hf5⟩ := h5
  obtain ⟨fuel6, hf6⟩ := h6
  obtain ⟨fuel7, hf7⟩ := h7
  obtain ⟨fuel8, hf8⟩ := h8
  obtain ⟨aR, n, cR, e2, n2, A, T, U, hA2, hT2, hU2, hW2⟩ := open_A hf2
  obtain ⟨aF, nf, cF, e3, n3, fr, hF3, _⟩ := open_I hf3
  obtain ⟨aO, no, cO, e4, n4, O, hO4, hOw⟩ := open_I hf4
  obtain ⟨aL, nl, cL, e5, n5, la, hL5, _⟩ := open_I hf5
  obtain ⟨aE, ne, cE, e6, n6, ex, hE6⟩ := open_E hf6
  obtain ⟨aK, nk, cK, e7, n7, ky, hK7, hWK⟩ := open_K hf7
  obtain ⟨aV, nv, cV, e8, n8, va, hV8, _⟩ := open_I hf8
  obtain ⟨b2, l2, c2, rfl⟩ := okWide_slice Try.underlying22 (hval 2 22 v2 rfl rfl)
  obtain ⟨b3, l3, c3, rfl⟩ := okWide_slice Try.underlying23 (hval 3 23 v3 rfl rfl)
  obtain ⟨b4, l4, c4, rfl⟩ := okWide_slice Try.underlying23 (hval 4 23 v4 rfl rfl)
  obtain ⟨b5, l5, c5, rfl⟩ := okWide_slice Try.underlying23 (hval 5 23 v5 rfl rfl)
  obtain ⟨b6, l6, c6, rfl⟩ := okWide_slice Try.underlying24 (hval 6 24 v6 rfl rfl)
  obtain ⟨b7, l7, c7, rfl⟩ := okWide_slice Try.underlying25 (hval 7 25 v7 rfl rfl)
  obtain ⟨b8, l8, c8, rfl⟩ := okWide_slice Try.underlying23 (hval 8 23 v8 rfl rfl)
  obtain ⟨rfl, rfl, rfl⟩ : aR = b2 ∧ n = l2 ∧ cR = c2 := by have := e2; simp [Value.cells] at this; exact ⟨this.1.symm, this.2.1.symm, this.2.2.symm⟩
  obtain ⟨rfl, rfl, rfl⟩ : aF = b3 ∧ nf = l3 ∧ cF = c3 := by have := e3; simp [Value.cells] at this; exact ⟨this.1.symm, this.2.1.symm, this.2.2.symm⟩
  obtain ⟨rfl, rfl, rfl⟩ : aO = b4 ∧ no = l4 ∧ cO = c4 := by have := e4; simp [Value.cells] at this; exact ⟨this.1.symm, this.2.1.symm, this.2.2.symm⟩
  obtain ⟨rfl, rfl, rfl⟩ : aL = b5 ∧ nl = l5 ∧ cL = c5 := by have := e5; simp [Value.cells] at this; exact ⟨this.1.symm, this.2.1.symm, this.2.2.symm⟩
  obtain ⟨rfl, rfl, rfl⟩ : aE = b6 ∧ ne = l6 ∧ cE = c6 := by have := e6; simp [Value.cells] at this; exact ⟨this.1.symm, this.2.1.symm, this.2.2.symm⟩
  obtain ⟨rfl, rfl, rfl⟩ : aK = b7 ∧ nk = l7 ∧ cK = c7 := by have := e7; simp [Value.cells] at this; exact ⟨this.1.symm, this.2.1.symm, this.2.2.symm⟩
  obtain ⟨rfl, rfl, rfl⟩ : aV = b8 ∧ nv = l8 ∧ cV = c8 := by have := e8; simp [Value.cells] at this; exact ⟨this.1.symm, this.2.1.symm, this.2.2.symm⟩
  obtain ⟨i0, rfl, rfl, rfl, w0⟩ := open_int Try.underlying2 (hval 0 2 v0 rfl rfl) h0
  obtain ⟨i1, rfl, rfl, rfl, w1⟩ := open_int Try.underlying2 (hval 1 2 v1 rfl rfl) h1
  obtain ⟨i9, rfl, rfl, rfl, w9⟩ := open_int Try.underlying2 (hval 9 2 v9 rfl rfl) h9
  clear hA0 hval0
  unfold maxLen at n2 n3 n4 n5 n6 n7 n8
  refine (adv_main i0 i1 i9 _ _ _ _ _ _ _ _ _ _ _ _ _ _ _ _ _ _ _ _ _ A T U fr O la va ex ky W hA2 hT2 hU2 hF3 hO4 hL5 hE6 hK7 hV8 hW2 hWK (by omega) (by omega) (by omega) (by omega) (by omega) (by omega) (by omega) hOw).mono fun e W' ⟨he, bel⟩ => ?_
  subst he
  exact ⟨_, rfl, _, _, _, [], _, [], hW', trodAll_mk1 (shut_bool Try.underlying4 _),
    (trodAll_cons_mk (shut_int Try.underlying2 w0) (trodAll_cons_mk (shut_int Try.underlying2 w1) (trodAll_cons_mk (Below.trod laidOut (by kernel_rfl) (of_decide_eq_true (by kernel_rfl)) k2 bel lt2) (trodAll_cons_mk (Below.trod laidOut (by kernel_rfl) (of_decide_eq_true (by kernel_rfl)) k3 bel lt3) (trodAll_cons_mk (Below.trod laidOut (by kernel_rfl) (of_decide_eq_true (by kernel_rfl)) k4 bel lt4) (trodAll_cons_mk (Below.trod laidOut (by kernel_rfl) (of_decide_eq_true (by kernel_rfl)) k5 bel lt5) (trodAll_cons_mk (Below.trod laidOut (by kernel_rfl) (of_decide_eq_true (by kernel_rfl)) k6 bel lt6) (trodAll_cons_mk (Below.trod laidOut (by kernel_rfl) (of_decide_eq_true (by kernel_rfl)) k7 bel lt7) (trodAll_cons_mk (Below.trod laidOut (by kernel_rfl) (of_decide_eq_true (by kernel_rfl)) k8 bel lt8) (trodAll_cons_mk (shut_int Try.underlying2 w9) trodAll_mk0)))))))))), rfl, bel.frame _, fun h => by cases h⟩

theorem advance_proved : Rows.FnAdvanceExactSaid :=
  OpenClaim.holds_of_wide 3 Try.f3 rfl rfl rfl rfl rfl rfl rfl ⟨rfl, rfl, rfl, rfl, rfl⟩ rfl rfl rfl rfl rfl (by kernel_rfl) Try.func3 (by kernel_rfl)
    (of_decide_eq_true (by kernel_rfl)) (by unfold Func.isWrapper; first | (rw [if_pos (by decide +kernel)]; kernel_rfl) | (rw [if_neg (by decide +kernel)]; exact ⟨rfl, rfl⟩))
    (fun os started H enc _ => advance_lifted os started H enc)
#print axioms advance_proved
end Go.Proofs.Qxb6619458a
