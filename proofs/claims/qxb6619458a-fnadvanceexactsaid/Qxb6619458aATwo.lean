import Derived.Test.Qxb6619458aAPl
namespace Go.Proofs.Qxb6619458a
open Go.RowKit

theorem Try.info2 : (Try.prog.info? 2).map (fun i => (i.zero, i.size, i.bytes)) = some (some (.int .i64 0), 1, 8) := by kernel_rfl
theorem Try.info3 : (Try.prog.info? 3).map (fun i => (i.zero, i.size, i.bytes)) = some (some (.int .i64 0), 1, 8) := by kernel_rfl

/-- The two lists in memory, apart. -/
structure Two (w5 wr : World) (vF vR : Value) (L : List (Int × Nat)) : Prop where
  f : wr.ownsRow w5.heap.size 2 1 vF L.length (fL L)
  r : wr.ownsRow w5.heap.size 3 1 vR L.length (rL L)
  ap : ∀ g, vF.ownBlock = some g → vR.ownBlock ≠ some g
  be : Below w5.heap.size w5 wr

structure Half (w5 wr : World) (vF vR : Value) (L : List (Int × Nat)) (t : Int) : Prop where
  f : wr.ownsRow w5.heap.size 2 1 vF (L.length + 1) (fL L ++ [.int .i64 t])
  r : wr.ownsRow w5.heap.size 3 1 vR L.length (rL L)
  ap : ∀ g, vF.ownBlock = some g → vR.ownBlock ≠ some g
  be : Below w5.heap.size w5 wr

/-- What one append leaves as it was. -/
theorem app_kept {wr w1 : World} {v : Value} {o : Obj} (hgr : (wr.alloc o).grownBy w1 v.ownBlock) {k : Nat} (hk : k < wr.heap.size) (hn : v.ownBlock ≠ some k) : w1.heap[k]? = wr.heap[k]? := by
  rw [hgr.block k (by simp; omega) (fun e => hn e.symm), Below.heap_alloc _ _ _ hk]

theorem app_be {w5 wr w1 : World} {v : Value} {o : Obj} (hb : Below w5.heap.size w5 wr) (hgr : (wr.alloc o).grownBy w1 v.ownBlock) (hv : ∀ k, v.ownBlock = some k → w5.heap.size ≤ k) : Below w5.heap.size w5 w1 := by
  have hz := hgr.size
  simp at hz
  have hz5 := hb.size
  refine ⟨hgr.os.trans hb.os, hgr.tape.trans hb.tape, hgr.output.trans hb.output, by omega, fun i hi => ?_⟩
  rw [app_kept hgr (by omega) (fun e => by have := hv i e; omega)]
  exact hb.block i hi

theorem Two.stepF {w5 wr w1 : World} {vF vR : Value} {L : List (Int × Nat)} {t : Int} {o : Obj} {g cap N : Nat} (h : Two w5 wr vF vR L) (hN : N = L.length) (hown : w1.ownsRow w5.heap.size 2 1 (.slice (some ⟨g, 0, none⟩) (N + 1) cap) (N + 1) (fL L ++ [.int .i64 t]))
    (hgr : (wr.alloc o).grownBy w1 vF.ownBlock) (hat : vF.ownBlock = some g ∨ g = wr.heap.size + 1) : Half w5 w1 (.slice (some ⟨g, 0, none⟩) (N + 1) cap) vR L t := by
  subst hN
  refine ⟨hown, own_kept h.r (fun k hk => app_kept hgr (h.r.lt k hk).2 (fun e => h.ap k e hk)), fun k hk q => ?_, app_be h.be hgr (fun k hk => (h.f.lt k hk).1)⟩
  have hk' : g = k := by simpa [Value.ownBlock] using hk
  subst hk'
  rcases hat with hat | hat
  · exact h.ap g hat q
  · have := (h.r.lt g q).2
    omega

theorem Half.step {w5 w1 w2 : World} {vF vR : Value} {L : List (Int × Nat)} {t : Int} {q : Nat} {o : Obj} {g cap N : Nat} (h : Half w5 w1 vF vR L t) (hN : N = L.length) (hown : w2.ownsRow w5.heap.size 3 1 (.slice (some ⟨g, 0, none⟩) (N + 1) cap) (N + 1) (rL L ++ [.int .i64 (q : Int)]))
    (hgr : (w1.alloc o).grownBy w2 vR.ownBlock) (hat : vR.ownBlock = some g ∨ g = w1.heap.size + 1) : Two w5 w2 vF (.slice (some ⟨g, 0, none⟩) (N + 1) cap) (L ++ [(t, q)]) := by
  subst hN
  refine ⟨?_, ?_, fun k hk e => ?_, app_be h.be hgr (fun k hk => (h.r.lt k hk).1)⟩
  · rw [fL_append, List.length_append]
    exact own_kept h.f (fun k hk => app_kept hgr (h.f.lt k hk).2 (h.ap k hk))
  · rw [rL_append, List.length_append]
    exact hown
  · have hk' : g = k := by simpa [Value.ownBlock] using e
    subst hk'
    rcases hat with hat | hat
    · exact h.ap g hk hat
    · have := (h.f.lt g hk).2
      omega

/-- A map's block is none of a list's. -/
theorem own_ne_map {w : World} {B e n md : Nat} {v : Value} {xs : List Value} {M : ByteArray → Option Value} (h : w.ownsRow B e 1 v n xs) (hm : MapS w md M) : v.ownBlock ≠ some md := by
  intro q
  obtain ⟨es, cl, hb, _⟩ := hm
  rcases h.2 with ⟨hv, _⟩ | ⟨g, cap, cur, hv, _, hg, _⟩
  · rw [hv] at q; cases q
  · rw [hv] at q
    have hk' : g = md := by simpa [Value.ownBlock] using q
    subst hk'
    rw [hb] at hg
    cases hg

theorem MapS.app {wr w1 : World} {md B e n : Nat} {M : ByteArray → Option Value} {v : Value} {xs : List Value} {o : Obj} (h : MapS wr md M) (hv : wr.ownsRow B e 1 v n xs) (hgr : (wr.alloc o).grownBy w1 v.ownBlock) : MapS w1 md M := by
  have hl := h.lt
  have hne := own_ne_map hv h
  obtain ⟨es, cl, hb, h2⟩ := h
  exact ⟨es, cl, by rw [app_kept hgr hl hne]; exact hb, h2⟩

theorem Two.fr {w5 wr w' : World} {vF vR : Value} {L : List (Int × Nat)} {md : Nat} {M : ByteArray → Option Value} (h : Two w5 wr vF vR L) (hm : MapS wr md M) (f : Fr (· = md) wr w') (hg : w5.heap.size ≤ md) : Two w5 w' vF vR L :=
  ⟨own_kept h.f (fun k hk => f.block k (h.f.lt k hk).2 (fun e => own_ne_map h.f hm (by rw [hk]; exact congrArg some e))), own_kept h.r (fun k hk => f.block k (h.r.lt k hk).2 (fun e => own_ne_map h.r hm (by rw [hk]; exact congrArg some e))), h.ap, f.toBelow h.be (fun i hi q => by omega)⟩

theorem make_own (w : World) (t e : Nat) (hU : Try.prog.underlying t = some (.slice e)) (hI : (Try.prog.info? e).map (fun i => (i.zero, i.size, i.bytes)) = some (some (.int .i64 0), 1, 8)) (ne : Nat) (hne : ne ≤ 65536) :
    (Instr.makeSlice t (.int .i64 0) (.int .i64 (ne : Int))).run Try.prog w = .ok (.slice (some ⟨w.heap.size, 0, none⟩) 0 ne) (w.alloc (.cells (madeCells #[.int .i64 0] ne) e)) := by
  obtain ⟨i0, hi, hz0, hz1, hz2⟩ := info_parts hI
  have hr := run_make (P := Try.prog) w t e i0 _ hU hi hz0 .i64 .i64 0 ne (by omega) (by omega) (by rw [hz2]; omega) (by omega)
  simp only [Int.toNat_natCast, hz1, Nat.mul_one] at hr
  exact hr
theorem own_made (w : World) (e ne B : Nat) (hne : ne ≤ 65536) (hB : B ≤ w.heap.size) : (w.alloc (.cells (madeCells #[.int .i64 0] ne) e)).ownsRow B e 1 (.slice (some ⟨w.heap.size, 0, none⟩) 0 ne) 0 [] :=
  ⟨rfl, .inr ⟨_, _, _, rfl, hB, heap_alloc_new _ _, Nat.zero_le _, by unfold maxLen; omega, by rw [size_madeCells, Nat.mul_one], by simp⟩⟩

/-- Both lists are made. -/
theorem Two.start (w : World) (ne : Nat) (hne : ne ≤ 65536) :
    Two w ((w.alloc (.cells (madeCells #[.int .i64 0] ne) 2)).alloc (.cells (madeCells #[.int .i64 0] ne) 3)) (.slice (some ⟨w.heap.size, 0, none⟩) 0 ne) (.slice (some ⟨w.heap.size + 1, 0, none⟩) 0 ne) [] := by
  refine ⟨(own_made w 2 ne w.heap.size hne (Nat.le_refl _)).alloc _, ?_, fun g h1 h2 => ?_, ((Below.refl _ _).alloc (Nat.le_refl _) _).alloc (by simp) _⟩
  · have := own_made (w.alloc (.cells (madeCells #[.int .i64 0] ne) 2)) 3 ne w.heap.size hne (by simp)
    rw [show (w.alloc (.cells (madeCells #[.int .i64 0] ne) 2)).heap.size = w.heap.size + 1 from by simp] at this
    exact this
  · simp only [Value.ownBlock, Option.some.injEq] at h1 h2
    omega

end Go.Proofs.Qxb6619458a
