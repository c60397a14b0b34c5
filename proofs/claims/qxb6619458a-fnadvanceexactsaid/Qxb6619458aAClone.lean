import Derived.Test.Qxb6619458aAAdv2
import Derived.Deep.RegionHeld3
namespace Go.Proofs.Qxb6619458a
open Go.RowKit
attribute [local go_sem ↓] Go.wp_at_zero Go.wp_at_succ

def SameA (x y : AR) : Prop := y.id = x.id ∧ y.tl = x.tl ∧ y.ul = x.ul ∧ y.cl = x.cl ∧ y.h = x.h

/-- Five cells of a record. -/
def Five (c : Array Value) (i : Nat) (x : AR) : Prop := c[i * 5]? = some (.string x.id) ∧ c[i * 5 + 1]? = some (.slice x.ta x.tl x.tc) ∧ c[i * 5 + 2]? = some (.slice x.ua x.ul x.uc) ∧ c[i * 5 + 3]? = some (.bool x.cl) ∧ c[i * 5 + 4]? = some (.int .i64 x.h)

theorem Cln.fr {F : Nat → Prop} {w w' : World} {B : Nat} {a : Option Addr} {n : Nat} {f : Nat → Int} (h : Cln w B a n f) (hf : Fr F w w') (hF : ∀ g, B ≤ g → ¬ F g) : Cln w' B a n f := by
  rcases h with h | ⟨g, ha, h2, hr⟩
  · exact .inl h
  · exact .inr ⟨g, ha, h2, hr.of_block (hf.block g hr.lt (hF g h2))⟩
theorem Cln.mono {w : World} {B B' : Nat} {a : Option Addr} {n : Nat} {f : Nat → Int} (h : Cln w B a n f) (hB : B' ≤ B) : Cln w B' a n f := by
  rcases h with h | ⟨g, ha, h2, hr⟩
  · exact .inl h
  · exact .inr ⟨g, ha, by omega, hr⟩

/-- What the clone's loop has laid. -/
structure CL (w wr : World) (gb n k : Nat) (A A' : Nat → AR) (T : Nat → Nat → Int) : Prop where
  blk : ∃ c : Array Value, Blk wr gb c 42 ∧ c.size = n * 5 ∧ ∀ i, i < k → Five c i (A' i)
  tos : ∀ i, i < k → Cln wr (gb + 1) (A' i).ta (A' i).tl (T i)
  same : ∀ i, i < k → SameA (A i) (A' i)
  be : Below gb w wr

theorem CL.step {w wr w1 w2 : World} {gb n k c1 c2 : Nat} {a1 a2 : Option Addr} {A A' : Nat → AR} {T U : Nat → Nat → Int} (h : CL w wr gb n k A A' T) (hk : k < n) (gw : gb = w.heap.size)
    (h1 : Cln w1 wr.heap.size a1 (A k).tl (T k)) (b1 : Below wr.heap.size wr w1) (_h2 : Cln w2 w1.heap.size a2 (A k).ul (U k)) (b2 : Below w1.heap.size w1 w2) :
    CL w (((((w2.setCell ⟨gb, k * 5, none⟩ (.string (A k).id)).setCell ⟨gb, k * 5 + 1, none⟩ (.slice a1 (A k).tl c1)).setCell ⟨gb, k * 5 + 2, none⟩ (.slice a2 (A k).ul c2)).setCell ⟨gb, k * 5 + 3, none⟩ (.bool (A k).cl)).setCell ⟨gb, k * 5 + 4, none⟩ (.int .i64 (A k).h)) gb n (k + 1) A (up A' k ⟨(A k).id, a1, (A k).tl, c1, a2, (A k).ul, c2, (A k).cl, (A k).h⟩) T := by
  obtain ⟨c, hb, hs, h5⟩ := h.blk
  have hl := hb.lt
  have z1 := b1.size
  have z2 := b2.size
  have b12 := chain b1 b2
  have hb2 := hb.below b12
  obtain ⟨cc, hcc⟩ : ∃ cc : Array Value, cc = ((((c.setIfInBounds (k * 5) (.string (A k).id)).setIfInBounds (k * 5 + 1) (.slice a1 (A k).tl c1)).setIfInBounds (k * 5 + 2) (.slice a2 (A k).ul c2)).setIfInBounds (k * 5 + 3) (.bool (A k).cl)).setIfInBounds (k * 5 + 4) (.int .i64 (A k).h) := ⟨_, rfl⟩
  have F : Fr (· = gb) w2 (((((w2.setCell ⟨gb, k * 5, none⟩ (.string (A k).id)).setCell ⟨gb, k * 5 + 1, none⟩ (.slice a1 (A k).tl c1)).setCell ⟨gb, k * 5 + 2, none⟩ (.slice a2 (A k).ul c2)).setCell ⟨gb, k * 5 + 3, none⟩ (.bool (A k).cl)).setCell ⟨gb, k * 5 + 4, none⟩ (.int .i64 (A k).h)) :=
    (((((Fr.refl _ _).setAt _ _).setAt _ _).setAt _ _).setAt _ _).setAt _ _
  refine ⟨⟨cc, by rw [hcc]; exact ((((hb2.set _ _).set _ _).set _ _).set _ _).set _ _, by rw [hcc]; simp [hs], fun i hi => ?_⟩, fun i hi => ?_, fun i hi => ?_, ?_⟩
  · by_cases e : i = k
    · subst e
      rw [up_same]
      have q : i * 5 + 4 < c.size := by omega
      refine ⟨?_, ?_, ?_, ?_, ?_⟩ <;> rw [hcc] <;> simp [Array.getElem?_setIfInBounds] <;> omega
    · rw [up_ne _ _ _ e]
      obtain ⟨q0, q1, q2, q3, q4⟩ := h5 i (by omega)
      refine ⟨?_, ?_, ?_, ?_, ?_⟩ <;> rw [hcc] <;> (repeat rw [Array.getElem?_setIfInBounds_ne (by omega)]) <;> assumption
  · by_cases e : i = k
    · subst e
      rw [up_same]
      exact ((h1.below b2).mono (by omega)).fr F (fun g hg q => by omega)
    · rw [up_ne _ _ _ e]
      exact ((h.tos i (by omega)).below b12).fr F (fun g hg q => by omega)
  · by_cases e : i = k
    · subst e
      rw [up_same]
      exact ⟨rfl, rfl, rfl, rfl, rfl⟩
    · rw [up_ne _ _ _ e]
      exact h.same i (by omega)
  · have := h.be
    refine ⟨F.os.trans (b12.os.trans this.os), F.tape.trans (b12.tape.trans this.tape), F.output.trans (b12.output.trans this.output), Nat.le_trans this.size (Nat.le_trans b12.size F.size), fun i hi => ?_⟩
    rw [F.block i (by omega) (by omega), b12.block i (by omega), this.block i hi]

theorem keep5 {w w' : World} {b o : Nat} {v0 v1 v2 v3 v4 : Value} (hb : Below w.heap.size w w') (hl : b < w.heap.size) (h : w.cell? ⟨b, o, none⟩ = some v0 ∧ w.cell? ⟨b, o + 1, none⟩ = some v1 ∧ w.cell? ⟨b, o + 2, none⟩ = some v2 ∧ w.cell? ⟨b, o + 3, none⟩ = some v3 ∧ w.cell? ⟨b, o + 4, none⟩ = some v4) :
    w'.cell? ⟨b, o, none⟩ = some v0 ∧ w'.cell? ⟨b, o + 1, none⟩ = some v1 ∧ w'.cell? ⟨b, o + 2, none⟩ = some v2 ∧ w'.cell? ⟨b, o + 3, none⟩ = some v3 ∧ w'.cell? ⟨b, o + 4, none⟩ = some v4 :=
  ⟨(hb.cell (p := ⟨b, o, none⟩) hl).trans h.1, (hb.cell (p := ⟨b, o + 1, none⟩) hl).trans h.2.1, (hb.cell (p := ⟨b, o + 2, none⟩) hl).trans h.2.2.1, (hb.cell (p := ⟨b, o + 3, none⟩) hl).trans h.2.2.2.1, (hb.cell (p := ⟨b, o + 4, none⟩) hl).trans h.2.2.2.2⟩

theorem keep5f {F : Nat → Prop} {w w' : World} {b o : Nat} {v0 v1 v2 v3 v4 : Value} (hb : Fr F w w') (hl : b < w.heap.size) (hn : ¬ F b) (h : w.cell? ⟨b, o, none⟩ = some v0 ∧ w.cell? ⟨b, o + 1, none⟩ = some v1 ∧ w.cell? ⟨b, o + 2, none⟩ = some v2 ∧ w.cell? ⟨b, o + 3, none⟩ = some v3 ∧ w.cell? ⟨b, o + 4, none⟩ = some v4) :
    w'.cell? ⟨b, o, none⟩ = some v0 ∧ w'.cell? ⟨b, o + 1, none⟩ = some v1 ∧ w'.cell? ⟨b, o + 2, none⟩ = some v2 ∧ w'.cell? ⟨b, o + 3, none⟩ = some v3 ∧ w'.cell? ⟨b, o + 4, none⟩ = some v4 := by
  have key : ∀ j, w'.cell? ⟨b, j, none⟩ = w.cell? ⟨b, j, none⟩ := fun j => World.cell?_of_block (w := w) (a := ⟨b, j, none⟩) (hb.block b hl hn)
  simp only [key]
  exact h

theorem Try.info42 : (Try.prog.info? 42).map (fun i => (i.zero, i.size, i.bytes)) = some (some (.agg #[.string ByteArray.empty, .slice none 0 0, .slice none 0 0, .bool false, .int .i64 0]), 5, 80) := by kernel_rfl

theorem make42 (n : Nat) (hn : n ≤ 65536) : ∃ ZC : Array Value, ZC.size = n * 5 ∧ ∀ w : World, (Instr.makeSlice 22 (.int .i64 (n : Int)) (.int .i64 (n : Int))).run Try.prog w = .ok (.slice (some ⟨w.heap.size, 0, none⟩) n n) (w.alloc (.cells ZC 42)) := by
  obtain ⟨i0, hi, hz0, hz1, hz2⟩ := info_parts Try.info42
  refine ⟨madeCells (Value.agg #[.string ByteArray.empty, .slice none 0 0, .slice none 0 0, .bool false, .int .i64 0]).cells (n * 5), size_madeCells _ _, fun w => ?_⟩
  have hr := run_make (P := Try.prog) w 22 42 i0 _ Try.underlying22 hi hz0 .i64 .i64 n n (by omega) (Int.le_refl _) (by rw [hz2]; omega) (by omega)
  simp only [Int.toNat_natCast, hz1] at hr
  exact hr

end Go.Proofs.Qxb6619458a
