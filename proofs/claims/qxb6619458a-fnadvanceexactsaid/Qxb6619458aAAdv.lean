import Derived.Test.Qxb6619458aAEnd
import Derived.Test.Qxb6619458aAWin
import Derived.Test.Qxb6619458aAMap
import Derived.Test.Qxb6619458aEvery
import Derived.Deep.RegionLaw
import Derived.Deep.RegionHeld3
namespace Go.Proofs.Qxb6619458a
open Go.RowKit
attribute [local go_sem ↓] Go.wp_at_zero Go.wp_at_succ

/-- Entries by the records' numbers, in memory by their blocks. -/
def adr (a : Nat → Nat) (L : List (Int × Nat)) : List (Int × Nat) := L.map (fun x => (x.1, a x.2))
theorem adr_append (a : Nat → Nat) (L L' : List (Int × Nat)) : adr a (L ++ L') = adr a L ++ adr a L' := List.map_append
theorem adr_len (a : Nat → Nat) (L : List (Int × Nat)) : (adr a L).length = L.length := List.length_map _

/-- The queue that advanceBuild lays. -/
def qu (ex : Nat → Int × Int) (ne : Nat) : List (Int × Nat) := (List.range ne).map (fun i => ((ex i).1, (ex i).2.toNat))
theorem qu_len (ex : Nat → Int × Int) (ne : Nat) : (qu ex ne).length = ne := by simp [qu]
theorem qu_drop (ex : Nat → Int × Int) {ne j : Nat} (h : j < ne) : (qu ex ne).drop j = ((ex j).1, (ex j).2.toNat) :: (qu ex ne).drop (j + 1) := by
  rw [List.drop_eq_getElem_cons (by rw [qu_len]; exact h)]
  simp [qu]

/-- What is requeued of the first j. -/
def rq (now linger : Int) (h : Nat → Int) (ex : Nat → Int × Int) : Nat → List (Int × Nat)
  | 0 => []
  | j + 1 => rq now linger h ex j ++ if wrap64 (now - h (ex j).2.toNat) ≤ linger then [(h (ex j).2.toNat, (ex j).2.toNat)] else []
/-- What is left of the map behind the first j. -/
def dl (now linger : Int) (h : Nat → Int) (id : Nat → ByteArray) (ex : Nat → Int × Int) (M : ByteArray → Option Value) : Nat → ByteArray → Option Value
  | 0 => M
  | j + 1 => if wrap64 (now - h (ex j).2.toNat) ≤ linger then dl now linger h id ex M j else upM (dl now linger h id ex M j) (id (ex j).2.toNat) none
theorem rq_len (now linger : Int) (h : Nat → Int) (ex : Nat → Int × Int) : ∀ j, (rq now linger h ex j).length ≤ j
  | 0 => Nat.le_refl _
  | j + 1 => by
    have := rq_len now linger h ex j
    unfold rq
    rw [List.length_append]
    split <;> simp <;> omega
theorem rq_old (now linger : Int) (h : Nat → Int) (ex : Nat → Int × Int) : ∀ j x, x ∈ rq now linger h ex j → wrap64 (now - x.1) ≤ linger
  | 0, x, hx => by simp [rq] at hx
  | j + 1, x, hx => by
    unfold rq at hx
    rw [List.mem_append] at hx
    rcases hx with hx | hx
    · exact rq_old now linger h ex j x hx
    · split at hx
      · rename_i hq
        simp at hx
        rw [hx]; exact hq
      · simp at hx
/-- Just the first j are older than linger. -/
def Pre (now linger : Int) (ex : Nat → Int × Int) (ne j : Nat) : Prop := j ≤ ne ∧ (∀ i, i < j → linger < wrap64 (now - (ex i).1)) ∧ (j < ne → wrap64 (now - (ex j).1) ≤ linger)
theorem Pre.uniq {now linger : Int} {ex : Nat → Int × Int} {ne j j' : Nat} (h : Pre now linger ex ne j) (h' : Pre now linger ex ne j') : j = j' := by
  obtain ⟨a1, a2, a3⟩ := h
  obtain ⟨b1, b2, b3⟩ := h'
  by_cases l : j < j'
  · have := b2 j l
    have := a3 (by omega)
    omega
  · by_cases l' : j' < j
    · have := a2 j' l'
      have := b3 (by omega)
      omega
    · omega
/-- The first j are older than linger. -/
def Old (now linger : Int) (ex : Nat → Int × Int) (j : Nat) : Prop := ∀ i, i < j → linger < wrap64 (now - (ex i).1)
theorem Old.zero (now linger : Int) (ex : Nat → Int × Int) : Old now linger ex 0 := fun i hi => by omega
theorem Old.step {now linger : Int} {ex : Nat → Int × Int} {j : Nat} (h : Old now linger ex j) (hj : linger < wrap64 (now - (ex j).1)) : Old now linger ex (j + 1) := fun i hi => by
  by_cases e : i = j
  · subst e; exact hj
  · exact h i (by omega)

theorem step_append_win {ops : Array Oper} {o : Oper} {ac : Act} {K : Act → World → Prop} {Q : Exit → Act → World → Prop} {E' : Prop} {w : World} (hgd : o.guard = none) (s x : Operand)
    (ho : o.op = .call { callee := .builtin .append, args := #[s, x], argTypes := #[94, 94] }) {B : Nat} {v : Value} {E : List (Int × Nat)} (hs : ac.eval s = v) (h : Win w B v E) (hB : B ≤ w.heap.size) (hE : E.length ≤ 1000000)
    (t : Int) (b H : Nat) (hx : ac.eval x = .slice (some ⟨H, 0, none⟩) 1 1) (hH : Blk w H #[.int .i64 t, .pointer (some ⟨b, 0, none⟩)] 101)
    (hK : ∀ ao cap w', Win w' B (.slice ao (E.length + 1) cap) (E ++ [(t, b)]) → Fr (fun i => some i = v.ownBlock) w w' → K (ac.put o.dst (.slice ao (E.length + 1) cap)) w') :
    if Region.wanted o (yielded ops ac.tmps) = true then Oper.wp Try.prog o ac w K Q else E' := by
  have hw : Region.wanted o (yielded ops ac.tmps) = true := by simp [Region.wanted, hgd]
  rw [if_pos hw]
  obtain ⟨ao, cap, w', hr, h2, h3⟩ := h.push hB hE t b H hH o.type
  unfold Oper.wp execOp
  simp only [ho, resolve, invoke, builtin, Sem.run_bind, Sem.run_pure, Result.andThen_ok, List.map_toArray, List.map_cons, List.map_nil, hs, hx, hr]
  exact hK ao cap w' h2 h3

end Go.Proofs.Qxb6619458a
