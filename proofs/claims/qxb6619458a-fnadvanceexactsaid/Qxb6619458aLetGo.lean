import Derived.Test.Qxb6619458aMerge2
import Derived.Deep.AppendLies
namespace Go.Proofs.Qxb6619458a
open Go.RowKit

/-- What the expiring queue holds: a tick and a record's block, entry by entry. -/
def exs : List (Int × Nat) → List Value
  | [] => []
  | (t, b) :: r => .int .i64 t :: .pointer (some ⟨b, 0, none⟩) :: exs r
theorem exs_append (a b : List (Int × Nat)) : exs (a ++ b) = exs a ++ exs b := by
  induction a with
  | nil => rfl
  | cons x r ih => obtain ⟨t, q⟩ := x; simp [exs, ih]
theorem exs_len (a : List (Int × Nat)) : (exs a).length = a.length * 2 := by
  induction a with
  | nil => rfl
  | cons x r ih => obtain ⟨t, q⟩ := x; simp [exs, ih]; omega

/-- The slice value v owns the entries E, in a block from B on. -/
def Ex (w : World) (B : Nat) (v : Value) (E : List (Int × Nat)) : Prop := w.ownsRow B 101 2 v E.length (exs E)

theorem Try.info101 : (Try.prog.info? 101).map (fun i => (i.zero, i.size, i.bytes)) = some (some (.agg #[.int .i64 0, .pointer none]), 2, 16) := by kernel_rfl

theorem Ex.form {w : World} {B : Nat} {v : Value} {E : List (Int × Nat)} (h : Ex w B v E) : ∃ ao c, v = .slice ao E.length c := by
  obtain ⟨_, h2⟩ := h
  rcases h2 with ⟨rfl, h0⟩ | ⟨g, cap, cur, rfl, _⟩
  · rw [h0]; exact ⟨none, 0, rfl⟩
  · exact ⟨_, cap, rfl⟩

theorem Ex.kept {w w' : World} {B : Nat} {v : Value} {E : List (Int × Nat)} (h : Ex w B v E) (hb : ∀ k, B ≤ k → k < w.heap.size → w'.heap[k]? = w.heap[k]?) : Ex w' B v E := by
  have hl := h.lt
  obtain ⟨h1, h2⟩ := h
  refine ⟨h1, ?_⟩
  rcases h2 with h2 | ⟨g, cap, cur, hv, hg, hh, r⟩
  · exact .inl h2
  · refine .inr ⟨g, cap, cur, hv, hg, ?_, r⟩
    rw [hb g hg (Array.getElem?_eq_some_iff.1 hh).1]
    exact hh

/-- An entry is there to be read. -/
theorem Ex.at {w : World} {B : Nat} {v : Value} {E : List (Int × Nat)} (h : Ex w B v E) {i : Nat} {t : Int} {b : Nat} (hi : E[i]? = some (t, b)) :
    ∃ g cap, v = .slice (some ⟨g, 0, none⟩) E.length cap ∧ g < w.heap.size ∧ w.cell? ⟨g, i * 2, none⟩ = some (.int .i64 t) ∧ w.cell? ⟨g, i * 2 + 1, none⟩ = some (.pointer (some ⟨b, 0, none⟩)) := by
  have hlt := (List.getElem?_eq_some_iff.1 hi).1
  obtain ⟨g, cap, rfl, hg, hgl⟩ := World.ownsRow.form h (by omega)
  have key : ∀ (l : List (Int × Nat)) (i : Nat), l[i]? = some (t, b) → (exs l)[i * 2]? = some (.int .i64 t) ∧ (exs l)[i * 2 + 1]? = some (.pointer (some ⟨b, 0, none⟩)) := by
    intro l
    induction l with
    | nil => intro i hi; simp at hi
    | cons x r ih =>
      intro i hi
      obtain ⟨t', b'⟩ := x
      cases i with
      | zero => simp at hi; obtain ⟨rfl, rfl⟩ := hi; exact ⟨rfl, rfl⟩
      | succ i =>
        rw [show (i + 1) * 2 = i * 2 + 1 + 1 from by omega]
        simp only [exs, List.getElem?_cons_succ] at hi ⊢
        exact ih i hi
  have hadd : ∀ j, (⟨g, 0, none⟩ : Addr).add j = ⟨g, j, none⟩ := fun j => by unfold Addr.add; split <;> simp_all
  obtain ⟨k1, k2⟩ := key E i hi
  refine ⟨g, cap, rfl, hgl, ?_, ?_⟩
  · have := World.ownsRow.cells h (g := g) rfl _ _ k1
    rwa [hadd] at this
  · have := World.ownsRow.cells h (g := g) rfl _ _ k2
    rwa [hadd] at this

set_option maxRecDepth 100000 in
set_option maxHeartbeats 1000000 in
theorem letGo_no (s r : Nat) (R : Rec) (at' : Int) (w : World) (hr : Blk w r R.cells 99) (hno : R.de = true → R.ev = false) :
    Calls Try.prog 65 #[.pointer (some ⟨s, 0, none⟩), .pointer (some ⟨r, 0, none⟩), .int .i64 at'] w fun e w' => e = .returned (.tuple #[]) ∧ w' = w := by
  have c6 : w.cell? ⟨r, 6, none⟩ = some (.bool R.de) := hr.cell rfl
  have c7 : w.cell? ⟨r, 7, none⟩ = some (.bool R.ev) := hr.cell rfl
  cases hd : R.de with
  | false =>
    rw [hd] at c6
    clear hno
    go_enter Try.func65, Try.ntmps65
    go_wp2
    refine bodyPost_ret (results_none rfl _ _ _) rfl ?_
    exact ⟨rfl, rfl⟩
  | true =>
    rw [hd] at c6
    rw [hno hd] at c7
    clear hno
    go_enter Try.func65, Try.ntmps65
    go_wp2
    refine bodyPost_ret (results_none rfl _ _ _) rfl ?_
    exact ⟨rfl, rfl⟩

set_option maxRecDepth 100000 in
set_option maxHeartbeats 1000000 in
theorem letGo_yes (s r B : Nat) (S : Sum) (R : Rec) (E : List (Int × Nat)) (at' : Int) (w : World) (hs : Blk w s S.cells 96) (hr : Blk w r R.cells 99) (hne : s ≠ r) (hsB : s < B) (hrB : r < B) (hB : B ≤ w.heap.size)
    (hex : Ex w B S.ex E) (hE : E.length ≤ 1000000) (hde : R.de = true) (hev : R.ev = true) :
    Calls Try.prog 65 #[.pointer (some ⟨s, 0, none⟩), .pointer (some ⟨r, 0, none⟩), .int .i64 at'] w fun e w' => e = .returned (.tuple #[]) ∧
      ∃ v', Blk w' s (Sum.cells { S with ex := v' }) 96 ∧ Blk w' r (Rec.cells { R with h := at' }) 99 ∧ Ex w' B v' (E ++ [(at', r)]) ∧ Fr (fun i => i = s ∨ i = r ∨ some i = S.ex.ownBlock) w w' := by
  have c6 : w.cell? ⟨r, 6, none⟩ = some (.bool true) := by rw [← hde]; exact hr.cell rfl
  have c7 : w.cell? ⟨r, 7, none⟩ = some (.bool true) := by rw [← hev]; exact hr.cell rfl
  have c14 : w.cell? ⟨r, 14, none⟩ = some (.int .i64 R.h) := hr.cell rfl
  have f14 := hr.frozen 14
  obtain ⟨ao, c, hv⟩ := hex.form
  have c21 : w.cell? ⟨s, 21, none⟩ = some (.slice ao E.length c) := by rw [← hv]; exact hs.cell rfl
  rw [hv] at hex
  have HV : Hid (S.ex = .slice ao E.length c) := hv
  have HD : Hid (R.de = true) := hde
  have HE : Hid (R.ev = true) := hev
  clear hv hde hev
  have hrl := hr.lt
  have hsl := hs.lt
  obtain ⟨i0, hi, hz0, hz1, hz2⟩ := info_parts Try.info101
  have hne' : ¬ r = s := fun e => hne e.symm
  have hnew : ∀ j u, [Value.int .i64 at', .pointer (some ⟨r, 0, none⟩)][j]? = some u → ((w.setCell ⟨r, 14, none⟩ (.int .i64 at')).alloc (.cells #[.int .i64 at', .pointer (some ⟨r, 0, none⟩)] 101)).cell? ((⟨w.heap.size, 0, none⟩ : Addr).add j) = some u := by
    have := World.news_of_block (heap_alloc_new (w.setCell ⟨r, 14, none⟩ (.int .i64 at')) (.cells #[.int .i64 at', .pointer (some ⟨r, 0, none⟩)] 101))
    simpa [World.setCell] using this
  go_enter Try.func65, Try.ntmps65
  go_wp2_with (at_builtin; refine wpList_append_lies _ rfl (.tmp 26) (.tmp 30) 94 rfl B 101 i0 (.agg #[.int .i64 0, .pointer none]) 2 16 Try.underlying94 hi hz0 hz1 hz2 rfl (by decide) (.slice ao E.length c) E.length (exs E) rfl ?hown ⟨w.heap.size, 0, none⟩ 1 1 [.int .i64 at', .pointer (some ⟨r, 0, none⟩)] rfl rfl ?hnews ?h1 (by omega) ?h63 ?hby ?hba (w.heap.size + 1) ?hH ?_)
  case hown => exact (ownsRow_setCell_below hex (a := ⟨r, 14, none⟩) hrB _).alloc _
  case hnews => exact hnew
  case h1 => intro u hu; simp at hu; rcases hu with rfl | rfl <;> rfl
  case h63 => unfold maxLen; omega
  case hby => omega
  case hba => simp; omega
  case hH => simp
  intro g cap w1 hown hgr hat hlt
  have hob : ∀ k, (Value.slice ao E.length c).ownBlock = some k → B ≤ k := fun k hk => (hex.lt k hk).1
  have far : ∀ k, k < B → w1.heap[k]? = (w.setCell ⟨r, 14, none⟩ (.int .i64 at')).heap[k]? := fun k hk => by
    rw [hgr.block k (by simp; omega) (fun e => by have := hob k e.symm; omega), Below.heap_alloc _ _ _ (by simp; omega)]
  have s1 : Blk w1 s S.cells 96 := by
    have := hs.other (a := ⟨r, 14, none⟩) hne (.int .i64 at')
    unfold Blk at this ⊢
    rw [far s hsB]; exact this
  have r1 : Blk w1 r (Rec.cells { R with h := at' }) 99 := by
    have := hr.set 14 (.int .i64 at')
    unfold Blk at this ⊢
    rw [far r hrB]; exact this
  have g21 : w1.cell? ⟨s, 21, none⟩ = some (.slice ao E.length c) := by rw [← HV.out]; exact s1.cell rfl
  have k21 := s1.frozen 21
  have hF : Fr (fun i => i = s ∨ i = r ∨ some i = S.ex.ownBlock) w w1 := by
    refine ⟨hgr.os, hgr.tape, hgr.output, ?_, fun k hk hn => ?_⟩
    · have := hgr.size; simp at this; omega
    · rw [HV.out] at hn
      rw [hgr.block k (by simp; omega) (fun e => hn (.inr (.inr e))), Below.heap_alloc _ _ _ (by simp; omega), Below.heap_setCell _ _ _ _ (fun e => hn (.inr (.inl e)))]
  have hown2 : Ex w1 B (.slice (some ⟨g, 0, none⟩) (E.length + 1) cap) (E ++ [(at', r)]) := by
    unfold Ex
    rw [exs_append, List.length_append]
    exact hown
  clear hnew c6 c7 c14 c21 f14 hown hgr hat far hob
  go_wp2
  go_end0
  refine ⟨rfl, .slice (some ⟨g, 0, none⟩) (E.length + 1) cap, s1.set 21 _, r1.other (a := ⟨s, 21, none⟩) hne' _, ?_, ?_⟩
  · exact hown2.kept (fun k hk _ => Below.heap_setCell _ _ _ _ (by simp; omega))
  · exact hF.setCell (p := ⟨s, 21, none⟩) (.inl (.inl rfl)) _

end Go.Proofs.Qxb6619458a
