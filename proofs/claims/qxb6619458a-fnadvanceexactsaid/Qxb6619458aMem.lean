import Derived.Test.Qxb6619458aPlainD
import Derived.BigQuiet
import Derived.Deep.QuietTactic
namespace Go.Proofs.Qxb6619458a
open Go.RowKit

/-- n records of ten cells lie in block b from 'off' on. -/
structure DAt (w : World) (b off n : Nat) (D : Nat → DR) : Prop where
  c0 : ∀ k, k < n → w.cell? ⟨b, off + k * 10, none⟩ = some (.bool (D k).cl)
  c1 : ∀ k, k < n → w.cell? ⟨b, off + k * 10 + 1, none⟩ = some (.bool (D k).de)
  c2 : ∀ k, k < n → w.cell? ⟨b, off + k * 10 + 2, none⟩ = some (.bool (D k).ev)
  c3 : ∀ k, k < n → w.cell? ⟨b, off + k * 10 + 3, none⟩ = some (.int .i64 (D k).lat.l0)
  c4 : ∀ k, k < n → w.cell? ⟨b, off + k * 10 + 4, none⟩ = some (.int .i64 (D k).lat.l1)
  c5 : ∀ k, k < n → w.cell? ⟨b, off + k * 10 + 5, none⟩ = some (.bool (D k).lat.la)
  c6 : ∀ k, k < n → w.cell? ⟨b, off + k * 10 + 6, none⟩ = some (.int .i64 (D k).lat.f0)
  c7 : ∀ k, k < n → w.cell? ⟨b, off + k * 10 + 7, none⟩ = some (.int .i64 (D k).lat.f1)
  c8 : ∀ k, k < n → w.cell? ⟨b, off + k * 10 + 8, none⟩ = some (.bool (D k).lat.fa)
  c9 : ∀ k, k < n → w.cell? ⟨b, off + k * 10 + 9, none⟩ = some (.int .i64 (D k).h)

/-- m steps lie in block b from 'off' on. -/
structure SAt (w : World) (b off m : Nat) (q : Nat → Int × Int) : Prop where
  c0 : ∀ j, j < m → w.cell? ⟨b, off + j * 2, none⟩ = some (.int .i64 (q j).1)
  c1 : ∀ j, j < m → w.cell? ⟨b, off + j * 2 + 1, none⟩ = some (.int .i64 (q j).2)

theorem DAt.eq {w w' : World} {b off n : Nat} {D : Nat → DR} (h : DAt w b off n D) (e : w'.heap[b]? = w.heap[b]?) : DAt w' b off n D := by
  have key : ∀ j, w'.cell? ⟨b, j, none⟩ = w.cell? ⟨b, j, none⟩ := fun j => World.cell?_of_block (w := w) (a := ⟨b, j, none⟩) e
  exact ⟨fun k hk => by rw [key]; exact h.c0 k hk, fun k hk => by rw [key]; exact h.c1 k hk, fun k hk => by rw [key]; exact h.c2 k hk, fun k hk => by rw [key]; exact h.c3 k hk, fun k hk => by rw [key]; exact h.c4 k hk,
    fun k hk => by rw [key]; exact h.c5 k hk, fun k hk => by rw [key]; exact h.c6 k hk, fun k hk => by rw [key]; exact h.c7 k hk, fun k hk => by rw [key]; exact h.c8 k hk, fun k hk => by rw [key]; exact h.c9 k hk⟩
theorem SAt.eq {w w' : World} {b off m : Nat} {q : Nat → Int × Int} (h : SAt w b off m q) (e : w'.heap[b]? = w.heap[b]?) : SAt w' b off m q := by
  have key : ∀ j, w'.cell? ⟨b, j, none⟩ = w.cell? ⟨b, j, none⟩ := fun j => World.cell?_of_block (w := w) (a := ⟨b, j, none⟩) e
  exact ⟨fun k hk => by rw [key]; exact h.c0 k hk, fun k hk => by rw [key]; exact h.c1 k hk⟩

/-- The slice at a leads to n records; where n is 0 nothing is known of a. -/
def IsD (w : World) (a : Option Addr) (n : Nat) (D : Nat → DR) : Prop := n ≤ 0 ∨ ∃ b off, a = some ⟨b, off, none⟩ ∧ b < w.heap.size ∧ DAt w b off n D
def IsS (w : World) (a : Option Addr) (m : Nat) (q : Nat → Int × Int) : Prop := m ≤ 0 ∨ ∃ b off, a = some ⟨b, off, none⟩ ∧ b < w.heap.size ∧ SAt w b off m q

theorem IsD.below {w w' : World} {a : Option Addr} {n : Nat} {D : Nat → DR} (h : IsD w a n D) (hb : Below w.heap.size w w') : IsD w' a n D := by
  rcases h with h | ⟨b, off, ha, hl, hd⟩
  · exact .inl h
  · exact .inr ⟨b, off, ha, Nat.lt_of_lt_of_le hl hb.size, hd.eq (hb.block b hl)⟩
theorem IsS.below {w w' : World} {a : Option Addr} {n : Nat} {q : Nat → Int × Int} (h : IsS w a n q) (hb : Below w.heap.size w w') : IsS w' a n q := by
  rcases h with h | ⟨b, off, ha, hl, hd⟩
  · exact .inl h
  · exact .inr ⟨b, off, ha, Nat.lt_of_lt_of_le hl hb.size, hd.eq (hb.block b hl)⟩

set_option maxRecDepth 100000 in
set_option maxHeartbeats 1000000 in
theorem bytes42_any (x y : Int) (l : Lat) (a a2 : Option Addr) (n c m c2 : Nat) (w : World) (hn : n ≤ 9223372036854775807) (hm : m ≤ 9223372036854775807) :
    Calls Try.prog 42 #[.int .i64 x, .agg l.cells, .slice a n c, .slice a2 m c2, .int .i64 y] w fun e w' => IsBool e True ∧ Below w.heap.size w w' := by
  unfold Lat.cells
  go_enter Try.func42, Try.ntmps42
  go_wp2
  all_goals
    go_ret
    exact ⟨IsBool.mk _ _ (fun _ => trivial), (Below.refl _ _).alloc (Nat.le_refl _) _⟩

/-- What decideFits asks. -/
def Fits (n m : Nat) (x : Int) (q : Nat → Int × Int) : Prop := n ≤ 65536 ∧ m ≤ 65536 ∧ 0 ≤ x ∧ x ≤ m ∧ ∀ j, j < m → 0 ≤ (q j).1 ∧ (q j).1 < n

set_option maxRecDepth 100000 in
set_option maxHeartbeats 1000000 in
theorem fits_any (a a2 : Option Addr) (n c m c2 : Nat) (x : Int) (q : Nat → Int × Int) (w : World) (hn : n ≤ 9223372036854775807) (hm : m ≤ 9223372036854775807) (hS : IsS w a2 m q) :
    Calls Try.prog 43 #[.slice a n c, .slice a2 m c2, .int .i64 x] w fun e w' => IsBool e (Fits n m x q) ∧ w' = w := by
  by_cases g1 : n ≤ 65536 ∧ m ≤ 65536 ∧ 48 * n + 16 * m ≤ 1048576 ∧ 0 ≤ x ∧ x ≤ m
  · obtain ⟨g1, g2, g3, g4, g5⟩ := g1
    rcases hS with hS | ⟨b, off, rfl, hb, hat⟩
    all_goals
      go_enter Try.func43, Try.ntmps43
      go_wp2
      go_loop [7] (fun i => ∃ k : Nat, k ≤ m ∧ i = .int .i64 k ∧ ∀ j, j < k → 0 ≤ (q j).1 ∧ (q j).1 < n) (fun i => m - (intOf i).toNat)
      case atStart => exact ⟨0, Nat.zero_le _, rfl, fun j hj => by omega⟩
      case round =>
        obtain ⟨k, hk, rfl, hall⟩ := hrel
        have HA : Hid (∀ j, j < k → 0 ≤ (q j).1 ∧ (q j).1 < n) := hall
        clear hall
        by_cases hlt : k < m
        · first
            | (exfalso; omega)
            | (have a0 := hat.c0 k hlt
               by_cases hq : 0 ≤ (q k).1 ∧ (q k).1 < n
               · obtain ⟨hq1, hq2⟩ := hq
                 go_wp2
                 go_round
                 case rel =>
                   refine ⟨k + 1, by omega, by go_num, fun j hj => ?_⟩
                   by_cases e : j = k
                   · subst e; exact ⟨hq1, hq2⟩
                   · exact HA.out j (by omega)
                 case measure => simp [intOf]; omega
               · have hq2 : (q k).1 < 0 ∨ (0 ≤ (q k).1 ∧ n ≤ (q k).1) := by omega
                 clear hq
                 rcases hq2 with hq | ⟨hq, hq2⟩
                 · go_wp2
                   go_ret
                   exact ⟨IsBool.mk _ _ (fun h => by cases h), rfl⟩
                 · go_wp2
                   go_ret
                   exact ⟨IsBool.mk _ _ (fun h => by cases h), rfl⟩)
        · go_wp2
          go_ret
          exact ⟨IsBool.mk _ _ (fun _ => ⟨g1, g2, g4, g5, fun j hj => HA.out j (by omega)⟩), rfl⟩
  · have g2 : 65536 < n ∨ (n ≤ 65536 ∧ 65536 < m) ∨ (n ≤ 65536 ∧ m ≤ 65536 ∧ 1048576 < 48 * n + 16 * m) ∨ (n ≤ 65536 ∧ m ≤ 65536 ∧ 48 * n + 16 * m ≤ 1048576 ∧ x < 0) ∨ (n ≤ 65536 ∧ m ≤ 65536 ∧ 48 * n + 16 * m ≤ 1048576 ∧ 0 ≤ x ∧ m < x) := by omega
    clear g1
    rcases g2 with g2 | ⟨g2, g3⟩ | ⟨g2, g3, g4⟩ | ⟨g2, g3, g4, g5⟩ | ⟨g2, g3, g4, g5, g6⟩
    all_goals
      go_enter Try.func43, Try.ntmps43
      go_wp2
      go_ret
      exact ⟨IsBool.mk _ _ (fun h => by cases h), rfl⟩

end Go.Proofs.Qxb6619458a
