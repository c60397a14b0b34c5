import Derived.Test.Qxb6619458aLetGo
import Derived.Deep.AppendSrc
namespace Go.Proofs.Qxb6619458a
open Go.RowKit

/-- The slice value v holds the entries E, from some place on of a block from B on: a queue that was popped and pushed. -/
def Win (w : World) (B : Nat) (v : Value) (E : List (Int × Nat)) : Prop :=
  (v = .slice none 0 0 ∧ E = []) ∨ ∃ g off cap cur, v = .slice (some ⟨g, off, none⟩) E.length cap ∧ B ≤ g ∧ Blk w g cur 101 ∧ E.length ≤ cap ∧ off + cap * 2 ≤ cur.size ∧ ∀ j u, (exs E)[j]? = some u → cur[off + j]? = some u

theorem Win.ofEx {w : World} {B : Nat} {v : Value} {E : List (Int × Nat)} (h : Ex w B v E) : Win w B v E := by
  obtain ⟨h1, h2⟩ := h
  rcases h2 with ⟨hv, h0⟩ | ⟨g, cap, cur, hv, hg, hh, hn, _, hc, ht⟩
  · exact .inl ⟨hv, List.length_eq_zero_iff.1 h0⟩
  · refine .inr ⟨g, 0, cap, cur, hv, hg, hh, hn, by omega, fun j u hj => ?_⟩
    rw [Nat.zero_add]
    rw [← ht, List.getElem?_take] at hj
    split at hj
    · simpa using hj
    · cases hj

theorem Win.form {w : World} {B : Nat} {v : Value} {E : List (Int × Nat)} (h : Win w B v E) : ∃ ao c, v = .slice ao E.length c := by
  rcases h with ⟨hv, rfl⟩ | ⟨g, off, cap, cur, hv, _⟩
  · exact ⟨none, 0, hv⟩
  · exact ⟨_, cap, hv⟩

theorem Win.lt {w : World} {B : Nat} {v : Value} {E : List (Int × Nat)} (h : Win w B v E) : ∀ k, some k = v.ownBlock → B ≤ k ∧ k < w.heap.size := by
  intro k hk
  rcases h with ⟨rfl, rfl⟩ | ⟨g, off, cap, cur, rfl, hg, hh, _⟩
  · simp [Value.ownBlock] at hk
  · simp [Value.ownBlock] at hk
    subst hk
    exact ⟨hg, hh.lt⟩

theorem Win.kept {w w' : World} {B : Nat} {v : Value} {E : List (Int × Nat)} (h : Win w B v E) (hb : ∀ k, B ≤ k → k < w.heap.size → w'.heap[k]? = w.heap[k]?) : Win w' B v E := by
  rcases h with h | ⟨g, off, cap, cur, hv, hg, hh, r⟩
  · exact .inl h
  · refine .inr ⟨g, off, cap, cur, hv, hg, ?_, r⟩
    have := hh.lt
    unfold Blk at hh ⊢
    rw [hb g hg this]; exact hh

theorem exs_at : ∀ (l : List (Int × Nat)) (i : Nat) {t : Int} {b : Nat}, l[i]? = some (t, b) → (exs l)[i * 2]? = some (.int .i64 t) ∧ (exs l)[i * 2 + 1]? = some (.pointer (some ⟨b, 0, none⟩)) := by
  intro l
  induction l with
  | nil => intro i t b hi; simp at hi
  | cons x r ih =>
    intro i t b hi
    obtain ⟨t', b'⟩ := x
    cases i with
    | zero => simp at hi; obtain ⟨rfl, rfl⟩ := hi; exact ⟨rfl, rfl⟩
    | succ i =>
      rw [show (i + 1) * 2 = i * 2 + 1 + 1 from by omega]
      simp only [exs, List.getElem?_cons_succ] at hi ⊢
      exact ih i hi

/-- An entry is there to be read. -/
theorem Win.at {w : World} {B : Nat} {v : Value} {E : List (Int × Nat)} (h : Win w B v E) {i : Nat} {t : Int} {b : Nat} (hi : E[i]? = some (t, b)) :
    ∃ g off cap, v = .slice (some ⟨g, off, none⟩) E.length cap ∧ g < w.heap.size ∧ w.cell? ⟨g, off + i * 2, none⟩ = some (.int .i64 t) ∧ w.cell? ⟨g, off + i * 2 + 1, none⟩ = some (.pointer (some ⟨b, 0, none⟩)) := by
  rcases h with ⟨_, rfl⟩ | ⟨g, off, cap, cur, hv, hg, hh, _, _, hc⟩
  · simp at hi
  · obtain ⟨k1, k2⟩ := exs_at E i hi
    exact ⟨g, off, cap, hv, hh.lt, hh.cell (hc _ _ k1), hh.cell (by rw [Nat.add_assoc]; exact hc _ _ k2)⟩

/-- The head, popped. -/
theorem Win.pop {w : World} {B : Nat} {v : Value} {t : Int} {b : Nat} {E : List (Int × Nat)} (h : Win w B v ((t, b) :: E)) :
    ∃ g off cap, v = .slice (some ⟨g, off, none⟩) (E.length + 1) cap ∧ B ≤ g ∧ g < w.heap.size ∧ E.length + 1 ≤ cap ∧ w.cell? ⟨g, off, none⟩ = some (.int .i64 t) ∧ w.cell? ⟨g, off + 1, none⟩ = some (.pointer (some ⟨b, 0, none⟩)) ∧
      (∀ j, w.frozen? ⟨g, j, none⟩ = false) ∧ Win ((w.setCell ⟨g, off, none⟩ (.int .i64 0)).setCell ⟨g, off + 1, none⟩ (.pointer none)) B (.slice (some ⟨g, off + 2, none⟩) E.length (cap - 1)) E ∧
      (cap ≤ 1 → Win ((w.setCell ⟨g, off, none⟩ (.int .i64 0)).setCell ⟨g, off + 1, none⟩ (.pointer none)) B (.slice (some ⟨g, off, none⟩) E.length 0) E) := by
  rcases h with ⟨_, h0⟩ | ⟨g, off, cap, cur, hv, hg, hh, hn, hs, hc⟩
  · cases h0
  · simp only [List.length_cons] at hv hn
    refine ⟨g, off, cap, hv, hg, hh.lt, hn, hh.cell (by have := hc 0 _ rfl; simpa using this), hh.cell (hc 1 _ rfl), hh.frozen, .inr ⟨g, off + 2, cap - 1, _, rfl, hg, (hh.set off _).set (off + 1) _, by omega, ?_, fun j u hj => ?_⟩, fun hle => .inr ⟨g, off, 0, _, rfl, hg, (hh.set off _).set (off + 1) _, by omega, ?_, fun j u hj => ?_⟩⟩
    · simp only [Array.size_setIfInBounds]; omega
    · have := hc (j + 2) u (by simpa [exs] using hj)
      rw [Array.getElem?_setIfInBounds_ne (by omega), Array.getElem?_setIfInBounds_ne (by omega), Nat.add_assoc, Nat.add_comm 2 j]
      exact this
    · simp only [Array.size_setIfInBounds]; omega
    · have h0 : E = [] := List.length_eq_zero_iff.1 (by omega)
      subst h0
      simp [exs] at hj

theorem exs_one (t : Int) (b : Nat) : exs [(t, b)] = [.int .i64 t, .pointer (some ⟨b, 0, none⟩)] := rfl

/-- An entry, pushed. -/
theorem Win.push {w : World} {B : Nat} {v : Value} {E : List (Int × Nat)} (h : Win w B v E) (hB : B ≤ w.heap.size) (hE : E.length ≤ 1000000) (t : Int) (b H : Nat) (hH : Blk w H #[.int .i64 t, .pointer (some ⟨b, 0, none⟩)] 101) (ty : TypeId) :
    ∃ ao cap w', (Builtin.append_ #[94, 94] ty #[v, .slice (some ⟨H, 0, none⟩) 1 1]).run Try.prog w = .ok (.slice ao (E.length + 1) cap) w' ∧ Win w' B (.slice ao (E.length + 1) cap) (E ++ [(t, b)]) ∧ Fr (fun i => some i = v.ownBlock) w w' := by
  obtain ⟨i0, hi, hz0, hz1, hz2⟩ := info_parts Try.info101
  have hnews : ∀ j u, [Value.int .i64 t, .pointer (some ⟨b, 0, none⟩)][j]? = some u → w.cell? ((⟨H, 0, none⟩ : Addr).add j) = some u := World.news_of_block hH
  have h1 : ∀ u ∈ [Value.int .i64 t, .pointer (some ⟨b, 0, none⟩)], u.oneCell' = true := fun u hu => by simp at hu; rcases hu with rfl | rfl <;> rfl
  have hl : [Value.int .i64 t, .pointer (some ⟨b, 0, none⟩)].length = 1 * i0.size := by rw [hz1]; rfl
  -- a new row
  have grown : ∀ (old : Nat) (olds : List Value), olds = exs E → old < E.length + 1 →
      Win (w.drew.alloc (.cells (olds.toArray ++ [Value.int .i64 t, .pointer (some ⟨b, 0, none⟩)].toArray ++ Builtin.zeroCells (Value.agg #[.int .i64 0, .pointer none]).cells (grownCap w (E.length + 1) old 101 - (E.length + 1))) 101)) B
        (.slice (some ⟨w.heap.size, 0, none⟩) (E.length + 1) (grownCap w (E.length + 1) old 101)) (E ++ [(t, b)]) := by
    intro old olds ho hlt
    subst ho
    have hge := grownCap_ge w (E.length + 1) old 101
    refine .inr ⟨w.heap.size, 0, _, _, by rw [List.length_append]; rfl, hB, heap_alloc_new w.drew _, by rw [List.length_append]; exact hge, ?_, fun j u hj => ?_⟩
    · simp only [Array.size_append, List.size_toArray, size_zeroCells, exs_len, List.length_cons, List.length_nil]
      have : (Value.agg #[.int .i64 0, .pointer none]).cells.size = 2 := rfl
      rw [this]
      omega
    · rw [exs_append, exs_one] at hj
      have hj2 : j < (exs E ++ [Value.int .i64 t, .pointer (some ⟨b, 0, none⟩)]).length := (List.getElem?_eq_some_iff.1 hj).1
      rw [Nat.zero_add, Array.getElem?_append_left (by simpa using hj2)]
      simpa using hj
  rcases h with ⟨rfl, rfl⟩ | ⟨g, off, cap, cur, rfl, hg, hh, hn, hs, hc⟩
  · have hr := run_append_nil (P := Try.prog) w 94 ty 101 i0 (.agg #[.int .i64 0, .pointer none]) Try.underlying94 hi hz0 ⟨H, 0, none⟩ 1 1 _ hl hnews (by omega) (by omega) (by rw [hz2]; decide)
    have hgr := grown 0 [] rfl (by simp)
    simp only [List.length_nil, Nat.zero_add, Array.empty_append] at hgr ⊢
    exact ⟨_, _, _, hr, hgr, ⟨rfl, rfl, rfl, by simp, fun k hk _ => Below.heap_alloc w.drew _ _ hk⟩⟩
  · by_cases hroom : E.length + 1 ≤ cap
    · have hsr : Src Try.prog i0.size 94 (.slice (some ⟨H, 0, none⟩) 1 1) 1 _ w := Src.ofSlice w Try.underlying94 ⟨H, 0, none⟩ 1 1 _ hl hnews h1
      have hcs : ∀ j, j < 2 → (w.cell? ⟨g, off + E.length * 2 + j, none⟩).isSome = true := fun j hj => by
        rw [hh.cell (v := cur[off + E.length * 2 + j]'(by omega)) (Array.getElem?_eq_getElem (by omega))]; rfl
      have hr := run_append_room_src (P := Try.prog) w 94 94 ty 101 i0 Try.underlying94 hi g off E.length cap _ 1 _ hsr hroom (fun j hj => by rw [hz1]; exact hcs j hj) (fun j _ => hh.frozen _)
      rw [hz1] at hr
      refine ⟨_, _, _, hr, .inr ⟨g, off, cap, _, by rw [List.length_append]; rfl, hg, (hh.set (off + E.length * 2) _).set (off + E.length * 2 + 1) _, by rw [List.length_append]; exact hroom, by simp only [Array.size_setIfInBounds]; exact hs, fun j u hj => ?_⟩, ?_⟩
      · rw [exs_append, exs_one] at hj
        have hel := exs_len E
        by_cases hjl : j < (exs E).length
        · rw [List.getElem?_append_left hjl] at hj
          rw [Array.getElem?_setIfInBounds_ne (by omega), Array.getElem?_setIfInBounds_ne (by omega)]
          exact hc j u hj
        · rw [List.getElem?_append_right (by omega)] at hj
          obtain ⟨q, hq⟩ : ∃ q, j = (exs E).length + q := ⟨j - (exs E).length, by omega⟩
          subst hq
          rw [Nat.add_sub_cancel_left] at hj
          match q, hj with
          | 0, hj =>
            simp at hj
            subst hj
            rw [Array.getElem?_setIfInBounds_ne (by omega), hel, Nat.add_zero, Array.getElem?_setIfInBounds_self_of_lt (by omega)]
          | 1, hj =>
            simp at hj
            subst hj
            rw [hel, ← Nat.add_assoc, Array.getElem?_setIfInBounds_self_of_lt (by simp only [Array.size_setIfInBounds]; omega)]
          | q + 2, hj => simp at hj
      · exact ((Fr.refl (fun i => some i = (Value.slice (some ⟨g, off, none⟩) E.length cap).ownBlock) w).setCell (p := ⟨g, off + E.length * 2, none⟩) (.inl rfl) _).setCell (p := ⟨g, off + E.length * 2 + 1, none⟩) (.inl rfl) _
    · have holds : ∀ j u, (exs E)[j]? = some u → w.cell? ((⟨g, off, none⟩ : Addr).add j) = some u := fun j u hj => by
        have hadd : (⟨g, off, none⟩ : Addr).add j = ⟨g, off + j, none⟩ := by unfold Addr.add; split <;> simp_all
        rw [hadd]
        exact hh.cell (hc j u hj)
      have hnx : Builtin.nextslicecap (E.length + 1) cap ≤ 2 * (E.length + 1) := nextslicecap_le (by omega)
      have hr := run_append_grow (P := Try.prog) w 94 ty 101 i0 (.agg #[.int .i64 0, .pointer none]) Try.underlying94 hi hz0 ⟨g, off, none⟩ E.length cap (exs E) (by rw [exs_len, hz1]) holds ⟨H, 0, none⟩ 1 1 _ hl hnews (by omega) (by omega) (by rw [hz2]; omega)
      exact ⟨_, _, _, hr, grown cap (exs E) rfl (by omega), ⟨rfl, rfl, rfl, by simp, fun k hk _ => Below.heap_alloc w.drew _ _ hk⟩⟩

end Go.Proofs.Qxb6619458a
