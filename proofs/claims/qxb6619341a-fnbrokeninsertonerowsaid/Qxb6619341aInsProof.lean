import Derived.Test.Qxb6619341aIns2
import Derived.Test.Qxb6619341aOpen
namespace Go.Proofs.Qxb6619341a
open Go.ChangeShapes Go.WideShapes Go.ChangeAt Go.RowKit

theorem ins_walk (a : Option Addr) (n c : Nat) (x : Int) (r : R) (w : World) (h : IsRows w a n c) :
    Calls Try.prog 4 #[.slice a n c, .int .i64 x, .agg #[.string r.s0, .string r.s1, .string r.s2, .string r.s3, .bool r.h]] w fun e w' => e = .returned (.bool true) ∧ Below w.heap.size w w' := by
  rcases h with ⟨rfl, rfl, rfl⟩ | ⟨y, rfl, rfl, rfl⟩ | ⟨b, off, L, rfl, hnc, hc, hb, hat⟩
  · exact ins_nil x r w
  · exact ins_zero y x r w
  · have hn : n ≤ 9223372036854775807 := by unfold maxLen at hc; omega
    by_cases hx : x < 0 ∨ (n : Int) < x
    · exact ins_out b off n c x r L w hn hb hat hx
    · obtain ⟨k, rfl⟩ : ∃ k : Nat, x = (k : Int) := ⟨x.toNat, by omega⟩
      exact ins_in b off n c k r L w hn hb hat (by omega)

theorem open_one {H : Type} {enc : TypeId × Value → H} {W : World} {base b0 : Nat} {spare : Nat → Bool} {held : Bool} {rr : Reach} {v : Value} {d : DataW H} {p : List MemPlace}
    (hv : Value.okWide Try.prog W rr b0 31 v) (h : DataW.Trod enc Try.prog W base spare held 31 v d p) :
    ∃ r : R, v = .agg #[.string r.s0, .string r.s1, .string r.s2, .string r.s3, .bool r.h] := by
  obtain ⟨cs, rfl, hsz⟩ := okWide_struct Try.underlying31 hv
  obtain ⟨fuel, hf⟩ := h
  obtain ⟨r, hr⟩ := open_row hf
  refine ⟨r, ?_⟩
  simp only [Value.cells] at hr
  rw [← Array.toArray_toList (xs := cs), hr]

set_option maxRecDepth 100000 in
theorem ins_lifted (os : Os) (started : os.Started) (H : Type) (enc : TypeId × Value → H) :
    ReturnsInHanded {} Try.checked os 4 .any (Rows.fnBrokenInsertOneRowSpec.pre6 enc Try.prog Try.f4 Rows.fnBrokenInsertOneRowRow.domain false) (Rows.fnBrokenInsertOneRowSpec.post enc Try.prog Try.f4 false true false false) := by
  refine returnsInHanded_of_change (C := Try.checked) own started (by kernel_rfl) Try.func4
    (ChangeSpec.witness6 (enc := enc) (C := Try.checked) false ⟨#[], #[.slice none 0 0, .int .i64 0, .agg #[.string ByteArray.empty, .string ByteArray.empty, .string ByteArray.empty, .string ByteArray.empty, .bool false]], []⟩ 8 (by kernel_rfl) (by kernel_rfl) (by kernel_rfl) (by kernel_rfl)) ?_
  intro W base args ds gs before hval0 hW hcnd _
  have hval : ∀ (j : Nat) t v, Try.f4.params[j]? = some t → args[j]? = some v → Value.okWide Try.prog W .any base t v := hval0
  have hW' := hW
  obtain ⟨p, q, hA0, hV, rfl, hfz, hnd⟩ := hW
  have hA : DataW.TrodAll enc Try.prog W 0 (fun _ => true) true Try.f4.params.toList args.toList ds p := hA0
  rw [Try.params4] at hA hval
  obtain ⟨v0, vs0, d0, ds0, p0, q0, hargs, rfl, rfl, h0, r0⟩ := trodAll_cons hA
  obtain ⟨v1, vs1, d1, ds1, p1, q1, rfl, rfl, rfl, h1, r1⟩ := trodAll_cons r0
  obtain ⟨v2, vs2, d2, ds2, p2, q2, rfl, rfl, rfl, h2, r2⟩ := trodAll_cons r1
  obtain ⟨rfl, rfl, rfl⟩ := trodAll_nil r2
  obtain rfl : args = #[v0, v1, v2] := by cases args; simp_all
  obtain ⟨rfl, rfl⟩ := trodVars_none hV
  obtain ⟨a0, len0, cap0, rfl⟩ := okWide_slice Try.underlying22 (hval 0 22 v0 rfl rfl)
  have k0 := h0
  have lt0 : ∀ x ∈ p0, x.block < W.heap.size := by obtain ⟨m, hm⟩ := k0; exact DataW.trod_lt m _ _ _ hm
  have w0 := open_rows h0
  have k2 := h2
  have lt2 : ∀ x ∈ p2, x.block < W.heap.size := by obtain ⟨m, hm⟩ := k2; exact DataW.trod_lt m _ _ _ hm
  obtain ⟨r, rfl⟩ := open_one (hval 2 31 v2 rfl rfl) h2
  obtain ⟨a1, rfl, rfl, rfl, w1⟩ := open_int Try.underlying3 (hval 1 3 v1 rfl rfl) h1
  clear hA0 hval0
  refine (ins_walk a0 len0 cap0 a1 r W w0).mono fun e W' ⟨he, bel⟩ => ?_
  subst he
  exact ⟨_, rfl, _, _, _, [], _, [], hW', trodAll_mk1 (shut_bool Try.underlying4 _), (trodAll_cons_mk (Below.trod laidOut (by kernel_rfl) (of_decide_eq_true (by kernel_rfl)) k0 bel lt0) (trodAll_cons_mk (shut_int Try.underlying3 w1) (trodAll_cons_mk (Below.trod laidOut (by kernel_rfl) (of_decide_eq_true (by kernel_rfl)) k2 bel lt2) trodAll_mk0))), rfl, bel.frame _, fun h => by cases h⟩

theorem ins_proved : Rows.FnBrokenInsertOneRowSaid :=
  OpenClaim.holds_of_wide 4 Try.f4 rfl rfl rfl rfl rfl rfl rfl ⟨rfl, rfl, rfl, rfl, rfl⟩ rfl rfl rfl rfl rfl (by kernel_rfl) Try.func4 (by kernel_rfl)
    (of_decide_eq_true (by kernel_rfl)) (by unfold Func.isWrapper; first | (rw [if_pos (by decide +kernel)]; kernel_rfl) | (rw [if_neg (by decide +kernel)]; exact ⟨rfl, rfl⟩))
    (fun os started H enc _ => ins_lifted os started H enc)
#print axioms ins_proved
end Go.Proofs.Qxb6619341a
