import Derived.Test.Qxb6619458aRun
import Derived.Deep.DrawnRows
import Derived.Lib.SliceRun
namespace Go.Proofs.Qxb6619458a
open Go.RowKit
attribute [local go_sem ↓] Go.wp_at_zero Go.wp_at_succ

/-- The slice at a leads to n ints; where n is 0 nothing is known of a. -/
def IsI (w : World) (a : Option Addr) (n : Nat) (f : Nat → Int) : Prop := n ≤ 0 ∨ ∃ b off, a = some ⟨b, off, none⟩ ∧ b < w.heap.size ∧ ∀ i, i < n → w.cell? ⟨b, off + i, none⟩ = some (.int .i64 (f i))
/-- .. to n strings. -/
def IsK (w : World) (a : Option Addr) (n : Nat) (f : Nat → ByteArray) : Prop := n ≤ 0 ∨ ∃ b off, a = some ⟨b, off, none⟩ ∧ b < w.heap.size ∧ ∀ i, i < n → w.cell? ⟨b, off + i, none⟩ = some (.string (f i))

/-- A record as advance sees it. -/
structure AR where
  id : ByteArray
  ta : Option Addr
  tl : Nat
  tc : Nat
  ua : Option Addr
  ul : Nat
  uc : Nat
  cl : Bool
  h : Int

structure AAt (w : World) (b off n : Nat) (A : Nat → AR) : Prop where
  c0 : ∀ k, k < n → w.cell? ⟨b, off + k * 5, none⟩ = some (.string (A k).id)
  c1 : ∀ k, k < n → w.cell? ⟨b, off + k * 5 + 1, none⟩ = some (.slice (A k).ta (A k).tl (A k).tc)
  c2 : ∀ k, k < n → w.cell? ⟨b, off + k * 5 + 2, none⟩ = some (.slice (A k).ua (A k).ul (A k).uc)
  c3 : ∀ k, k < n → w.cell? ⟨b, off + k * 5 + 3, none⟩ = some (.bool (A k).cl)
  c4 : ∀ k, k < n → w.cell? ⟨b, off + k * 5 + 4, none⟩ = some (.int .i64 (A k).h)

/-- .. to n records. -/
def IsA (w : World) (a : Option Addr) (n : Nat) (A : Nat → AR) : Prop := n ≤ 0 ∨ ∃ b off, a = some ⟨b, off, none⟩ ∧ b < w.heap.size ∧ AAt w b off n A

theorem AAt.eq {w w' : World} {b off n : Nat} {A : Nat → AR} (h : AAt w b off n A) (e : w'.heap[b]? = w.heap[b]?) : AAt w' b off n A := by
  have key : ∀ j, w'.cell? ⟨b, j, none⟩ = w.cell? ⟨b, j, none⟩ := fun j => World.cell?_of_block (w := w) (a := ⟨b, j, none⟩) e
  exact ⟨fun k hk => by rw [key]; exact h.c0 k hk, fun k hk => by rw [key]; exact h.c1 k hk, fun k hk => by rw [key]; exact h.c2 k hk, fun k hk => by rw [key]; exact h.c3 k hk, fun k hk => by rw [key]; exact h.c4 k hk⟩
theorem IsA.below {w w' : World} {a : Option Addr} {n : Nat} {A : Nat → AR} (h : IsA w a n A) (hb : Below w.heap.size w w') : IsA w' a n A := by
  rcases h with h | ⟨b, off, ha, hl, hd⟩
  · exact .inl h
  · exact .inr ⟨b, off, ha, Nat.lt_of_lt_of_le hl hb.size, hd.eq (hb.block b hl)⟩
theorem IsI.below {w w' : World} {a : Option Addr} {n : Nat} {f : Nat → Int} (h : IsI w a n f) (hb : Below w.heap.size w w') : IsI w' a n f := by
  rcases h with h | ⟨b, off, ha, hl, hd⟩
  · exact .inl h
  · exact .inr ⟨b, off, ha, Nat.lt_of_lt_of_le hl hb.size, fun i hi => by rw [World.cell?_of_block (w := w) (a := ⟨b, off + i, none⟩) (hb.block b hl)]; exact hd i hi⟩
theorem IsK.below {w w' : World} {a : Option Addr} {n : Nat} {f : Nat → ByteArray} (h : IsK w a n f) (hb : Below w.heap.size w w') : IsK w' a n f := by
  rcases h with h | ⟨b, off, ha, hl, hd⟩
  · exact .inl h
  · exact .inr ⟨b, off, ha, Nat.lt_of_lt_of_le hl hb.size, fun i hi => by rw [World.cell?_of_block (w := w) (a := ⟨b, off + i, none⟩) (hb.block b hl)]; exact hd i hi⟩
theorem IsI.le {w : World} {a : Option Addr} {n : Nat} {f : Nat → Int} (h : IsI w a n f) {i : Nat} (hi : i < n) : ∃ b off, a = some ⟨b, off, none⟩ ∧ b < w.heap.size ∧ w.cell? ⟨b, off + i, none⟩ = some (.int .i64 (f i)) := by
  rcases h with h | ⟨b, off, ha, hl, hd⟩
  · omega
  · exact ⟨b, off, ha, hl, hd i hi⟩
theorem IsK.le {w : World} {a : Option Addr} {n : Nat} {f : Nat → ByteArray} (h : IsK w a n f) {i : Nat} (hi : i < n) : ∃ b off, a = some ⟨b, off, none⟩ ∧ b < w.heap.size ∧ w.cell? ⟨b, off + i, none⟩ = some (.string (f i)) := by
  rcases h with h | ⟨b, off, ha, hl, hd⟩
  · omega
  · exact ⟨b, off, ha, hl, hd i hi⟩
theorem IsA.le {w : World} {a : Option Addr} {n : Nat} {A : Nat → AR} (h : IsA w a n A) {k : Nat} (hk : k < n) : ∃ b off, a = some ⟨b, off, none⟩ ∧ b < w.heap.size ∧ w.cell? ⟨b, off + k * 5, none⟩ = some (.string (A k).id) ∧
    w.cell? ⟨b, off + k * 5 + 1, none⟩ = some (.slice (A k).ta (A k).tl (A k).tc) ∧ w.cell? ⟨b, off + k * 5 + 2, none⟩ = some (.slice (A k).ua (A k).ul (A k).uc) ∧ w.cell? ⟨b, off + k * 5 + 3, none⟩ = some (.bool (A k).cl) ∧ w.cell? ⟨b, off + k * 5 + 4, none⟩ = some (.int .i64 (A k).h) := by
  rcases h with h | ⟨b, off, ha, hl, hd⟩
  · omega
  · exact ⟨b, off, ha, hl, hd.c0 k hk, hd.c1 k hk, hd.c2 k hk, hd.c3 k hk, hd.c4 k hk⟩
theorem IsS.le {w : World} {a : Option Addr} {n : Nat} {q : Nat → Int × Int} (h : IsS w a n q) {k : Nat} (hk : k < n) : ∃ b off, a = some ⟨b, off, none⟩ ∧ b < w.heap.size ∧ w.cell? ⟨b, off + k * 2, none⟩ = some (.int .i64 (q k).1) ∧ w.cell? ⟨b, off + k * 2 + 1, none⟩ = some (.int .i64 (q k).2) := by
  rcases h with h | ⟨b, off, ha, hl, hd⟩
  · omega
  · exact ⟨b, off, ha, hl, hd.c0 k hk, hd.c1 k hk⟩

/-- What cloneInts gives: nil, or a block of its own. -/
def Cln (w : World) (B : Nat) (a : Option Addr) (n : Nat) (f : Nat → Int) : Prop := (a = none ∧ n = 0) ∨ ∃ g, a = some ⟨g, 0, none⟩ ∧ B ≤ g ∧ w.rowIs g 3 n (fun i => .int .i64 (f i))
theorem Cln.isI {w : World} {B : Nat} {a : Option Addr} {n : Nat} {f : Nat → Int} (h : Cln w B a n f) : IsI w a n f := by
  rcases h with ⟨_, h⟩ | ⟨g, ha, _, hr⟩
  · exact .inl (by omega)
  · exact .inr ⟨g, 0, ha, hr.lt, fun i hi => by rw [Nat.zero_add]; exact hr.cell hi⟩
theorem Cln.below {w w' : World} {B : Nat} {a : Option Addr} {n : Nat} {f : Nat → Int} (h : Cln w B a n f) (hb : Below w.heap.size w w') : Cln w' B a n f := by
  rcases h with h | ⟨g, ha, h2, hr⟩
  · exact .inl h
  · exact .inr ⟨g, ha, h2, hr.of_block (hb.block g hr.lt)⟩

set_option maxRecDepth 100000 in
set_option maxHeartbeats 1000000 in
theorem cloneInts_any (a : Option Addr) (n c : Nat) (f : Nat → Int) (w : World) (hn : n ≤ 1048576) (h : IsI w a n f) :
    Calls Try.prog 11 #[.slice a n c] w fun e w' => ∃ a' c', e = .returned (.slice a' n c') ∧ Cln w' w.heap.size a' n f ∧ Below w.heap.size w w' := by
  have hq : ∀ (w : World) (a : Option Addr) (n c : Nat), (binOp .eql 23 (.slice a n c) (.slice none 0 0)).run Try.prog w = .ok (.bool a.isNone) w := fun w a n c => Lib.run_eql_slice_nil w _ _ a n c 0 0 Try.underlying23
  have h0 : a = none → n = 0 := fun e => by
    rcases h with h | ⟨b, off, ha, _⟩
    · omega
    · rw [e] at ha; cases ha
  rcases a with _ | x
  · have e0 := h0 rfl
    subst e0
    clear h h0
    go_enter Try.func11, Try.ntmps11
    go_wp2
    go_ret
    exact ⟨none, 0, rfl, .inl ⟨rfl, rfl⟩, Below.refl _ _⟩
  · clear h0
    have hmk := run_make_row' (P := Try.prog) 23 3 (.int .i64 0) 8 Try.underlying23 (by kernel_rfl) rfl .i64 .i64 n (by omega) (by omega)
    go_enter Try.func11, Try.ntmps11
    go_wp2
    have G0 := World.rowIs_made w (.int .i64 0) n 3
    have G1 : Below w.heap.size w (w.alloc (.cells (madeCells #[.int .i64 0] n) 3)) := (Below.refl _ _).alloc (Nat.le_refl _) _
    clear hmk
    go_loopw [4] (fun i wr => ∃ k : Nat, k ≤ n ∧ i = .int .i64 k ∧ wr.rowIs w.heap.size 3 n (fun j => if j < k then .int .i64 (f j) else .int .i64 0) ∧ Below w.heap.size w wr) (fun i _ => n - (intOf i).toNat)
    case atStart => exact ⟨0, Nat.zero_le _, rfl, G0.congr (fun j _ => by simp), G1⟩
    case round =>
      clear G0 G1
      obtain ⟨k, hk, rfl, hr, hb⟩ := hrel
      by_cases hlt : k < n
      · obtain ⟨b, off, hx, hl, hc⟩ := h.le hlt
        simp only [Option.some.injEq] at hx
        subst hx
        have hc' := (hb.cell (p := ⟨b, off + k, none⟩) hl).trans hc
        have c1 := hr.cell hlt
        have f1 := hr.frozen k
        clear h hc
        go_wp2
        go_roundw
        case rel =>
          refine ⟨k + 1, by omega, by go_num, ?_, hb.setCell (p := ⟨w.heap.size, k, none⟩) (Nat.le_refl _) _⟩
          refine (hr.set k (.int .i64 (f k))).congr (fun j _ => ?_)
          show (if j = k then Value.int .i64 (f k) else if j < k then .int .i64 (f j) else .int .i64 0) = _
          by_cases e : j = k
          · subst e; simp
          · by_cases l : j < k
            · rw [if_neg e, if_pos l, if_pos (by omega)]
            · rw [if_neg e, if_neg l, if_neg (by omega)]
        case measure => simp [intOf]; omega
      · go_wp2
        go_ret
        refine ⟨_, _, rfl, .inr ⟨w.heap.size, rfl, Nat.le_refl _, hr.congr (fun j hj => ?_)⟩, hb⟩
        rw [if_pos (by omega)]

end Go.Proofs.Qxb6619458a
