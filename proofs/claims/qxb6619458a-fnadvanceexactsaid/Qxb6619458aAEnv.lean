import Derived.Test.Qxb6619458aABld2
namespace Go.Proofs.Qxb6619458a
open Go.RowKit

/-- lastVal, as far as it is laid. -/
def lvk (ky : Nat → ByteArray) (va : Nat → Int) : Nat → ByteArray → Option Value
  | 0 => fun _ => none
  | j + 1 => upM (lvk ky va j) (ky j) (some (.int .i64 (va j)))

theorem key_val (ky : Nat → ByteArray) (va : Nat → Int) (a : Nat → Nat) : ∀ nk i, i < nk → ∃ j, j < nk ∧ lvk ky va nk (ky i) = some (.int .i64 (va j)) ∧ mpk ky va a nk (ky i) = some (ptr a (dec (va j)))
  | 0, i, hi => by omega
  | nk + 1, i, hi => by
    by_cases e : ky i = ky nk
    · exact ⟨nk, Nat.lt_succ_self _, by rw [lvk, upM, if_pos e], by rw [mpk, upM, if_pos e]⟩
    · have hik : i < nk := by
        by_cases q : i = nk
        · subst q; exact absurd rfl e
        · omega
      obtain ⟨j, h1, h2, h3⟩ := key_val ky va a nk i hik
      exact ⟨j, by omega, by rw [lvk, upM, if_neg e]; exact h2, by rw [mpk, upM, if_neg e]; exact h3⟩

/-- All that is read of the first run, and of what came in. -/
structure Env (w : World) (aR aF aB aL aE aK : Option Addr) (rb s ob lb n G m B nf ne nk mv : Nat) (a : Nat → Nat) (S : Sum) (A : Nat → AR) (P : PS) (E : List (Int × Nat)) (M : ByteArray → Option Value) (fr la va O : Nat → Int) (ex : Nat → Int × Int) (ky : Nat → ByteArray) : Prop where
  aw : AW w s ob lb n G m B a S A P E M
  rs : w.rowIs rb 40 n (fun i => .pointer (some ⟨a i, 0, none⟩))
  iR : IsA w aR n A
  iF : IsI w aF nf fr
  iB : IsI w aB G O
  iL : IsI w aL G la
  iE : IsS w aE ne ex
  iK : IsK w aK nk ky
  lv : MapS w mv (lvk ky va nk)

section
variable {aR aF aB aL aE aK : Option Addr} {rb s ob lb n G m B nf ne nk mv : Nat} {a : Nat → Nat} {S : Sum} {A : Nat → AR} {P : PS} {E : List (Int × Nat)} {M : ByteArray → Option Value} {fr la va O : Nat → Int} {ex : Nat → Int × Int} {ky : Nat → ByteArray}

theorem Env.below {w w' : World} (h : Env w aR aF aB aL aE aK rb s ob lb n G m B nf ne nk mv a S A P E M fr la va O ex ky) (hb : Below w.heap.size w w') : Env w' aR aF aB aL aE aK rb s ob lb n G m B nf ne nk mv a S A P E M fr la va O ex ky :=
  ⟨h.aw.below hb, h.rs.of_block (hb.block _ h.rs.lt), h.iR.below hb, h.iF.below hb, h.iB.below hb, h.iL.below hb, h.iE.below hb, h.iK.below hb, h.lv.below hb⟩
end

/-- What does not turn: the numbers. -/
structure Num (n G nf ne nk : Nat) (fr la va : Nat → Int) (ex : Nat → Int × Int) : Prop where
  bn : n ≤ 65536
  bG : G ≤ 65536
  bnf : nf ≤ 65536
  bne : ne ≤ 65536
  bnk : nk ≤ 65536
  rF : InR fr 0 n nf
  rL : InR la (-1) n G
  rE : InR (fun i => (ex i).2) 0 n ne
  rV : InR va (-1) n nk

theorem qu_at (ex : Nat → Int × Int) (a : Nat → Nat) (ne k : Nat) (h : k < ne) : (adr a (qu ex ne))[k]? = some ((ex k).1, a (ex k).2.toNat) := by
  simp [adr, qu, h]

theorem FreshIs.below {w w' : World} {s ob lb n nf gF : Nat} {a fk : Nat → Nat} {v : Value} (h : FreshIs w s ob lb n a fk v nf gF) (f : Below w.heap.size w w') : FreshIs w' s ob lb n a fk v nf gF :=
  FreshIs.fr (F := fun _ => False) h (Fr.ofBelow f) (fun q => q)
theorem FreshIs.form {w : World} {s ob lb n nf gF : Nat} {a fk : Nat → Nat} {v : Value} (h : FreshIs w s ob lb n a fk v nf gF) : ∃ x c, v = .slice x nf c := by
  rcases h with ⟨h0, hv⟩ | ⟨cF, cur, hv, _⟩
  · exact ⟨none, 0, by rw [h0]; exact hv⟩
  · exact ⟨_, _, hv⟩
theorem FreshIs.at {w : World} {s ob lb n nf gF : Nat} {a fk : Nat → Nat} {v : Value} (h : FreshIs w s ob lb n a fk v nf gF) {k : Nat} (hk : k < nf) : ∃ c, v = .slice (some ⟨gF, 0, none⟩) nf c ∧ w.cell? ⟨gF, k, none⟩ = some (.pointer (some ⟨a (fk k), 0, none⟩)) := by
  rcases h with ⟨h0, hv⟩ | ⟨cF, cur, hv, _, hb, hc, _⟩
  · omega
  · exact ⟨cF, hv, hb.cell (hc k hk)⟩

end Go.Proofs.Qxb6619458a
