import Derived.Test.Qxb6619458aMapOne
namespace Go.Proofs.Qxb6619458a
open Go.RowKit Go.MapKept

/-- Block m is a map over strings that reads as M. -/
def MapS (w : World) (m : Nat) (M : ByteArray → Option Value) : Prop :=
  ∃ es clock, w.heap[m]? = some (.map es clock) ∧ Stamped es clock ∧ (∀ x ∈ es.toList, IsKey .string x.key) ∧ ∀ id v, M id = some v ↔ ∃ (i : Nat) (e : MapEntry), es[i]? = some e ∧ e.key = .string id ∧ e.val = v

def upM {α : Type} (M : ByteArray → α) (id : ByteArray) (v : α) (k : ByteArray) : α := if k = id then v else M k

theorem keyInj {es : Array MapEntry} {clock : Nat} (hs : Stamped es clock) {i j : Nat} {e e' : MapEntry} (hi : es[i]? = some e) (hj : es[j]? = some e') (h : e.key = e'.key) : i = j := by
  have hl : i < (es.toList.map (·.key)).length := by simpa using (Array.getElem?_eq_some_iff.1 hi).1
  refine (List.getElem?_inj hl hs.2.2).1 ?_
  have a1 : es.toList[i]? = some e := by simpa using hi
  have a2 : es.toList[j]? = some e' := by simpa using hj
  rw [List.getElem?_map, List.getElem?_map, a1, a2]
  simp [h]

theorem MapS.lt {w : World} {m : Nat} {M : ByteArray → Option Value} (h : MapS w m M) : m < w.heap.size := by
  obtain ⟨es, clock, hb, _⟩ := h
  exact (Array.getElem?_eq_some_iff.1 hb).1
theorem MapS.fr {F : Nat → Prop} {w w' : World} {m : Nat} {M : ByteArray → Option Value} (h : MapS w m M) (f : Fr F w w') (hn : ¬ F m) : MapS w' m M := by
  have hl := h.lt
  obtain ⟨es, clock, hb, r⟩ := h
  exact ⟨es, clock, by rw [f.block m hl hn]; exact hb, r⟩
theorem MapS.below {w w' : World} {m : Nat} {M : ByteArray → Option Value} (h : MapS w m M) (f : Below w.heap.size w w') : MapS w' m M := by
  have hl := h.lt
  obtain ⟨es, clock, hb, r⟩ := h
  exact ⟨es, clock, by rw [f.block m hl]; exact hb, r⟩
theorem MapS.congr {w : World} {m : Nat} {M M' : ByteArray → Option Value} (h : MapS w m M) (he : ∀ id, M id = M' id) : MapS w m M' := by
  have : M = M' := funext he
  rw [← this]; exact h
theorem MapS.ofNil {w : World} {m : Nat} (h : Nil w m) : MapS w m (fun _ => none) :=
  ⟨#[], 0, h, stamped_empty 0, by simp, fun id v => by simp⟩

/-- Is the key there? -/
theorem MapS.find {es : Array MapEntry} {M : ByteArray → Option Value} (hk : ∀ x ∈ es.toList, IsKey .string x.key) (hM : ∀ id v, M id = some v ↔ ∃ (i : Nat) (e : MapEntry), es[i]? = some e ∧ e.key = .string id ∧ e.val = v) (id : ByteArray) :
    (Instr.findNow .string (.string id) es.toList 0 = some none ∧ M id = none ∧ ∀ x ∈ es.toList, x.key ≠ .string id) ∨ ∃ j e, Instr.findNow .string (.string id) es.toList 0 = some (some (j, e.val)) ∧ es[j]? = some e ∧ e.key = .string id ∧ M id = some e.val := by
  rcases findNow_spec (d := .string) (k := .string id) trivial es.toList 0 hk with ⟨h1, h2⟩ | ⟨j, e, h1, h2, h3⟩
  · refine .inl ⟨h1, ?_, h2⟩
    cases hc : M id with
    | none => rfl
    | some v =>
      obtain ⟨i, e, hi, hke, _⟩ := (hM id v).1 hc
      have : es.toList[i]? = some e := by simpa using hi
      exact absurd hke (h2 e (List.mem_of_getElem? this))
  · have hj : es[j]? = some e := by simpa using h2
    rw [Nat.zero_add] at h1
    exact .inr ⟨j, e, h1, hj, h3, (hM id e.val).2 ⟨j, e, hj, h3, rfl⟩⟩

theorem MapS.look {w : World} {m : Nat} {M : ByteArray → Option Value} (h : MapS w m M) {t e : TypeId} (ht : Try.prog.underlying t = some (.map 9 e)) {z : Value} (hz : (zeroValue e).run Try.prog w = .ok z w) (id : ByteArray) :
    (Instr.lookup t (.map (some m)) (.string id) false).run Try.prog w = .ok ((M id).getD z) w ∧ (Instr.lookup t (.map (some m)) (.string id) true).run Try.prog w = .ok (.tuple #[(M id).getD z, .bool (M id).isSome]) w := by
  obtain ⟨es, clock, hb, hs, hk, hM⟩ := h
  rcases MapS.find hk hM id with ⟨h1, h2, _⟩ | ⟨j, x, h1, _, _, h2⟩
  · rw [h2]
    constructor <;> simp [Instr.lookup, run_underlying ht, MapKept.run_getObj_map hb, MapKept.run_checkKey Try.underlying9 (k := .string id) trivial, MapKept.run_findKey Try.underlying9 h1, hz, Result.andThen]
  · rw [h2]
    constructor <;> simp [Instr.lookup, run_underlying ht, MapKept.run_getObj_map hb, MapKept.run_checkKey Try.underlying9 (k := .string id) trivial, MapKept.run_findKey Try.underlying9 h1, Result.andThen]

theorem MapS.put {w : World} {m : Nat} {M : ByteArray → Option Value} (h : MapS w m M) {t e : TypeId} (ht : Try.prog.underlying t = some (.map 9 e)) (id : ByteArray) (val : Value) :
    ∃ w', (Instr.mapUpdate t (.map (some m)) (.string id) val).run Try.prog w = .ok () w' ∧ MapS w' m (upM M id (some val)) ∧ Fr (· = m) w w' := by
  obtain ⟨es, clock, hb, hs, hk, hM⟩ := h
  have hl := (Array.getElem?_eq_some_iff.1 hb).1
  have frame : ∀ o : Obj, Fr (· = m) w { w with heap := w.heap.setIfInBounds m o } := fun o => ⟨rfl, rfl, rfl, by simp, fun k _ hk => by simp [Ne.symm hk]⟩
  rcases MapS.find hk hM id with ⟨h1, h2, h3⟩ | ⟨j, x, h1, hj, hkx, h2⟩
  · refine ⟨_, by simp [Instr.mapUpdate, run_underlying ht, MapKept.run_getObj_map hb, MapKept.run_checkKey Try.underlying9 (k := .string id) trivial, MapKept.run_findKey Try.underlying9 h1, MapKept.run_setObj_map _ hb, Result.andThen]; rfl, ?_, frame _⟩
    refine ⟨_, _, (heap_set hb).1, stamped_push hs h3, ?_, fun id' v => ?_⟩
    · intro y hy
      simp only [Array.toList_push, List.mem_append, List.mem_singleton] at hy
      rcases hy with hy | rfl
      · exact hk y hy
      · trivial
    · unfold upM
      by_cases e : id' = id
      · subst e
        rw [if_pos rfl]
        constructor
        · rintro hv
          cases hv
          exact ⟨es.size, _, by rw [Array.getElem?_push_size], rfl, rfl⟩
        · rintro ⟨i, y, hy, hky, hvy⟩
          rw [Array.getElem?_push] at hy
          split at hy
          · cases hy; rw [← hvy]
          · have : es.toList[i]? = some y := by simpa using hy
            exact absurd hky (h3 y (List.mem_of_getElem? this))
      · rw [if_neg e, hM id' v]
        constructor
        · rintro ⟨i, y, hy, r⟩
          exact ⟨i, y, by rw [Array.getElem?_push, if_neg (by have := (Array.getElem?_eq_some_iff.1 hy).1; omega)]; exact hy, r⟩
        · rintro ⟨i, y, hy, hky, hvy⟩
          rw [Array.getElem?_push] at hy
          split at hy
          · cases hy
            simp only [Value.string.injEq] at hky
            exact absurd hky.symm e
          · exact ⟨i, y, hy, hky, hvy⟩
  · refine ⟨_, by simp [Instr.mapUpdate, run_underlying ht, MapKept.run_getObj_map hb, MapKept.run_checkKey Try.underlying9 (k := .string id) trivial, MapKept.run_findKey Try.underlying9 h1, hj, hkx, MapKept.run_keyThatStays (d := .string) (k := .string id) trivial, MapKept.run_setObj_map _ hb, Result.andThen]; rfl, ?_, frame _⟩
    have hkey : ∀ e', es[j]? = some e' → ({ e' with key := .string id, val := val } : MapEntry).key = e'.key := fun e' he' => by rw [hj] at he'; cases he'; exact hkx.symm
    refine ⟨_, _, (heap_set hb).1, stamped_modify hs _ _ (fun _ _ => rfl) (fun e' _ he' => hkey e' he'), isKey_modify hk _ _ hkey, fun id' v => ?_⟩
    unfold upM
    by_cases e : id' = id
    · subst e
      rw [if_pos rfl]
      constructor
      · rintro hv
        cases hv
        exact ⟨j, _, by rw [Array.getElem?_modify, if_pos rfl, hj]; rfl, rfl, rfl⟩
      · rintro ⟨i, y, hy, hky, hvy⟩
        rw [Array.getElem?_modify] at hy
        by_cases ij : j = i
        · subst ij
          rw [if_pos rfl, hj] at hy
          cases hy
          rw [← hvy]
        · rw [if_neg ij] at hy
          exact absurd (keyInj hs hj hy (hkx.trans hky.symm)) ij
    · rw [if_neg e, hM id' v]
      constructor
      · rintro ⟨i, y, hy, hky, hvy⟩
        have ij : ¬ j = i := by
          rintro rfl
          rw [hj] at hy
          cases hy
          rw [hkx] at hky
          simp only [Value.string.injEq] at hky
          exact e hky.symm
        exact ⟨i, y, by rw [Array.getElem?_modify, if_neg ij]; exact hy, hky, hvy⟩
      · rintro ⟨i, y, hy, hky, hvy⟩
        rw [Array.getElem?_modify] at hy
        by_cases ij : j = i
        · subst ij
          rw [if_pos rfl, hj] at hy
          cases hy
          simp only [Value.string.injEq] at hky
          exact absurd hky.symm e
        · rw [if_neg ij] at hy
          exact ⟨i, y, hy, hky, hvy⟩

theorem MapS.del {w : World} {m : Nat} {M : ByteArray → Option Value} (h : MapS w m M) {t e : TypeId} (ht : Try.prog.underlying t = some (.map 9 e)) (id : ByteArray) :
    ∃ w', (∀ ty, (Builtin.delete_ #[t, 9] ty #[.map (some m), .string id]).run Try.prog w = .ok (.tuple #[]) w') ∧ MapS w' m (upM M id none) ∧ Fr (· = m) w w' := by
  obtain ⟨es, clock, hb, hs, hk, hM⟩ := h
  have frame : ∀ o : Obj, Fr (· = m) w { w with heap := w.heap.setIfInBounds m o } := fun o => ⟨rfl, rfl, rfl, by simp, fun k _ hk => by simp [Ne.symm hk]⟩
  rcases MapS.find hk hM id with ⟨h1, h2, h3⟩ | ⟨j, x, h1, hj, hkx, h2⟩
  · refine ⟨_, fun ty => by simp [Builtin.delete_, run_underlying ht, MapKept.run_getObj_map hb, MapKept.run_checkKey Try.underlying9 (k := .string id) trivial, MapKept.run_findKey Try.underlying9 h1, MapKept.run_setObj_map _ hb, Result.andThen]; rfl, ?_, frame _⟩
    refine ⟨_, _, (heap_set hb).1, hs, hk, fun id' v => ?_⟩
    unfold upM
    by_cases e : id' = id
    · subst e
      rw [if_pos rfl, ← hM, h2]
    · rw [if_neg e]; exact hM id' v
  · have hjl := (Array.getElem?_eq_some_iff.1 hj).1
    refine ⟨_, fun ty => by simp [Builtin.delete_, run_underlying ht, MapKept.run_getObj_map hb, MapKept.run_checkKey Try.underlying9 (k := .string id) trivial, MapKept.run_findKey Try.underlying9 h1, MapKept.run_setObj_map _ hb, Result.andThen]; rfl, ?_, frame _⟩
    have hel : (es.eraseIdxIfInBounds j).toList = es.toList.eraseIdx j := by
      unfold Array.eraseIdxIfInBounds
      rw [dif_pos hjl, Array.toList_eraseIdx]
    have hat : ∀ i, (es.eraseIdxIfInBounds j)[i]? = if i < j then es[i]? else es[i + 1]? := fun i => by
      rw [← Array.getElem?_toList, hel, List.getElem?_eraseIdx]
      split <;> simp
    refine ⟨_, _, (heap_set hb).1, stamped_erase hs _, ?_, fun id' v => ?_⟩
    · intro y hy
      rw [hel] at hy
      exact hk y ((List.eraseIdx_sublist _ _).subset hy)
    · unfold upM
      by_cases e : id' = id
      · subst e
        rw [if_pos rfl]
        constructor
        · rintro hv; cases hv
        · rintro ⟨i, y, hy, hky, _⟩
          exfalso
          rw [hat] at hy
          split at hy
          · have := keyInj hs hj hy (hkx.trans hky.symm); omega
          · have := keyInj hs hj hy (hkx.trans hky.symm); omega
      · rw [if_neg e, hM id' v]
        constructor
        · rintro ⟨i, y, hy, hky, hvy⟩
          have ij : ¬ j = i := by
            rintro rfl
            rw [hj] at hy
            cases hy
            rw [hkx] at hky
            simp only [Value.string.injEq] at hky
            exact e hky.symm
          by_cases hlt : i < j
          · exact ⟨i, y, by rw [hat, if_pos hlt]; exact hy, hky, hvy⟩
          · exact ⟨i - 1, y, by rw [hat, if_neg (by omega), show i - 1 + 1 = i from by omega]; exact hy, hky, hvy⟩
        · rintro ⟨i, y, hy, hky, hvy⟩
          rw [hat] at hy
          split at hy
          · exact ⟨i, y, hy, hky, hvy⟩
          · exact ⟨i + 1, y, hy, hky, hvy⟩

end Go.Proofs.Qxb6619458a
