import Derived.Test.Qxb6619458aAUn
namespace Go.Proofs.Qxb6619458a
open Go.RowKit

/-- What the counts and the last indices have to do with what place leaves. -/
structure CD (n G : Nat) (Q : PS) (O c d : Nat → Int) : Prop where
  o : ∀ g, g < G → Q.O g = wrap64 (O g + c g)
  l : ∀ g, g < G → Q.L g = dec (d g)
  r : ∀ g, g < G → d g < n

theorem wrap_one (x y : Int) : wrap64 (wrap64 (x + y) + 1) = wrap64 (x + wrap64 (y + 1)) := by unfold wrap64; omega

theorem CD.step {n G : Nat} {Q : PS} {O c d : Nat → Int} (h : CD n G Q O c d) (ul : Nat → Nat) {k g : Nat} (hk : k < n) :
    CD n G (pst ul k g Q) O (up c g (wrap64 (c g + 1))) (up d g (k : Int)) := by
  refine ⟨fun i hi => ?_, fun i hi => ?_, fun i hi => ?_⟩
  · show up Q.O g (wrap64 (Q.O g + 1)) i = _
    by_cases e : i = g
    · subst e; rw [up_same, up_same, h.o i hi, wrap_one]
    · rw [up_ne _ _ _ e, up_ne _ _ _ e]; exact h.o i hi
  · show up Q.L g (some k) i = _
    by_cases e : i = g
    · subst e; rw [up_same, up_same, dec_nat]
    · rw [up_ne _ _ _ e, up_ne _ _ _ e]; exact h.l i hi
  · by_cases e : i = g
    · subst e; rw [up_same]; omega
    · rw [up_ne _ _ _ e]; exact h.r i hi

theorem CD.start {n G : Nat} {O la : Nat → Int} {C : Nat → Bool} (hO : ∀ g, g < G → wrap64 (O g) = O g) (hL : InR la (-1) n G) : CD n G ⟨O, Lk la G, C⟩ O (fun _ => 0) la :=
  ⟨fun g hg => by show O g = wrap64 (O g + 0); rw [Int.add_zero, hO g hg], fun g hg => Lk_all la G g hg, fun g hg => (hL g hg).2⟩

/-- The ids that are struck. -/
def dele (now linger : Int) (h : Nat → Int) (id : Nat → ByteArray) (ex : Nat → Int × Int) : Nat → ByteArray → Option Value
  | 0 => fun _ => none
  | j + 1 => if wrap64 (now - h (ex j).2.toNat) ≤ linger then dele now linger h id ex j else upM (dele now linger h id ex j) (id (ex j).2.toNat) (some (.bool true))

theorem dl_dele (now linger : Int) (h : Nat → Int) (id : Nat → ByteArray) (ex : Nat → Int × Int) (M : ByteArray → Option Value) (x : ByteArray) : ∀ j,
    (dele now linger h id ex j x = none ∧ dl now linger h id ex M j x = M x) ∨ (dele now linger h id ex j x = some (.bool true) ∧ dl now linger h id ex M j x = none)
  | 0 => .inl ⟨rfl, rfl⟩
  | j + 1 => by
    have ih := dl_dele now linger h id ex M x j
    by_cases c : wrap64 (now - h (ex j).2.toNat) ≤ linger
    · rw [dele, dl, if_pos c, if_pos c]; exact ih
    · rw [dele, dl, if_neg c, if_neg c]
      by_cases e : x = id (ex j).2.toNat
      · exact .inr ⟨by rw [upM, if_pos e], by rw [upM, if_pos e]⟩
      · rw [upM, upM, if_neg e, if_neg e]; exact ih

/-- An own row of one-celled elements, read. -/
theorem own_at {w : World} {B e n : Nat} {v : Value} {xs : List Value} (h : w.ownsRow B e 1 v n xs) {i : Nat} {x : Value} (hi : xs[i]? = some x) :
    ∃ g c, v = .slice (some ⟨g, 0, none⟩) n c ∧ g < w.heap.size ∧ w.cell? ⟨g, i, none⟩ = some x := by
  have hl := (List.getElem?_eq_some_iff.1 hi).1
  have hn := h.1
  rcases h.2 with ⟨_, h0⟩ | ⟨g, cap, cur, hv, hg, hb, hc1, hc2, hc3, hc4⟩
  · omega
  · refine ⟨g, cap, hv, (Array.getElem?_eq_some_iff.1 hb).1, ?_⟩
    have hb' : Blk w g cur e := hb
    refine hb'.cell ?_
    rw [Nat.mul_one] at hc4 hn
    rw [← Array.getElem?_toList, ← List.getElem?_take_of_lt (show i < n by omega), hc4]
    exact hi
theorem own_form {w : World} {B e n : Nat} {v : Value} {xs : List Value} (h : w.ownsRow B e 1 v n xs) : ∃ ao c, v = .slice ao n c := by
  rcases h.2 with ⟨h1, h2⟩ | ⟨g, cap, cur, h1, _⟩
  · exact ⟨none, 0, by rw [h1, h2]⟩
  · exact ⟨_, cap, h1⟩
/-- It stays, where none of its blocks turns. -/
theorem own_kept {w w' : World} {B e n : Nat} {v : Value} {xs : List Value} (h : w.ownsRow B e 1 v n xs) (hk : ∀ g, v.ownBlock = some g → w'.heap[g]? = w.heap[g]?) : w'.ownsRow B e 1 v n xs := by
  refine ⟨h.1, ?_⟩
  rcases h.2 with h1 | ⟨g, cap, cur, hv, hg, hb, hc⟩
  · exact .inl h1
  · refine .inr ⟨g, cap, cur, hv, hg, ?_, hc⟩
    rw [hk g (by rw [hv]; rfl)]; exact hb

/-- The two lists. -/
def fL (L : List (Int × Nat)) : List Value := L.map (fun x => .int .i64 x.1)
def rL (L : List (Int × Nat)) : List Value := L.map (fun x => .int .i64 (x.2 : Int))
theorem fL_append (L L' : List (Int × Nat)) : fL (L ++ L') = fL L ++ fL L' := List.map_append
theorem rL_append (L L' : List (Int × Nat)) : rL (L ++ L') = rL L ++ rL L' := List.map_append
theorem qu_drop_succ (ex : Nat → Int × Int) {k i : Nat} (h : k ≤ i) : (qu ex (i + 1)).drop k = (qu ex i).drop k ++ [((ex i).1, (ex i).2.toNat)] := by
  rw [qu_succ, List.drop_append_of_le_length (by rw [qu_len]; exact h)]
theorem qu_drop_self (ex : Nat → Int × Int) (k : Nat) : (qu ex k).drop k = [] := by
  rw [List.drop_eq_nil_iff, qu_len]; exact Nat.le_refl _

theorem qu_range (ex : Nat → Int × Int) (n ne : Nat) (h : InR (fun i => (ex i).2) 0 n ne) : ∀ x ∈ qu ex ne, x.2 < n := by
  intro x hx
  simp only [qu, List.mem_map, List.mem_range] at hx
  obtain ⟨i, hi, rfl⟩ := hx
  have h1 : 0 ≤ (ex i).2 ∧ (ex i).2 < n := h i hi
  show (ex i).2.toNat < n
  omega
theorem rq_range (now linger : Int) (h : Nat → Int) (ex : Nat → Int × Int) (n ne : Nat) (hr : InR (fun i => (ex i).2) 0 n ne) : ∀ j, j ≤ ne → ∀ x ∈ rq now linger h ex j, x.2 < n
  | 0, _, x, hx => by cases hx
  | j + 1, hj, x, hx => by
    rw [rq] at hx
    rcases List.mem_append.1 hx with hx | hx
    · exact rq_range now linger h ex n ne hr j (by omega) x hx
    · split at hx
      · have h1 : 0 ≤ (ex j).2 ∧ (ex j).2 < n := hr j (by omega)
        simp only [List.mem_singleton] at hx
        subst hx
        show (ex j).2.toNat < n
        omega
      · cases hx

/-- What stands behind the first k statements of FnAdvanceExact. -/
def dropS : Nat → Code → Code
  | 0, c => c
  | k + 1, .seq _ b => dropS k b
  | _ + 1, c => c
noncomputable def rest3 (k : Nat) : Code := dropS k (Try.f3.body.getD .skip)

end Go.Proofs.Qxb6619458a
