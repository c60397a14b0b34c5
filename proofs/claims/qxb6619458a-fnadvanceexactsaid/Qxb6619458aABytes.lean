import Derived.Test.Qxb6619458aAMem
namespace Go.Proofs.Qxb6619458a
open Go.RowKit
attribute [local go_sem ↓] Go.wp_at_zero Go.wp_at_succ

/-- No length of the first k records passes Go's. -/
def Wide (A : Nat → AR) (k : Nat) : Prop := ∀ j, j < k → (A j).id.size ≤ 9223372036854775807 ∧ (A j).tl ≤ 9223372036854775807 ∧ (A j).ul ≤ 9223372036854775807
/-- .. passes 2^20. -/
def Small (A : Nat → AR) (k : Nat) : Prop := ∀ j, j < k → (A j).id.size ≤ 1048576 ∧ (A j).tl ≤ 1048576 ∧ (A j).ul ≤ 1048576
theorem Small.zero (A : Nat → AR) : Small A 0 := fun j hj => by omega
theorem Small.step {A : Nat → AR} {k : Nat} (h : Small A k) (h1 : (A k).id.size ≤ 1048576) (h2 : (A k).tl ≤ 1048576) (h3 : (A k).ul ≤ 1048576) : Small A (k + 1) := fun j hj => by
  by_cases e : j = k
  · subst e; exact ⟨h1, h2, h3⟩
  · exact h j (by omega)
/-- No key passes Go's length. -/
def WideK (K : Nat → ByteArray) (k : Nat) : Prop := ∀ j, j < k → (K j).size ≤ 9223372036854775807

set_option maxRecDepth 100000 in
set_option maxHeartbeats 4000000 in
theorem bytes8_any (linger sNow now : Int) (ar af ao al ae ak av : Option Addr) (n nf no nl ne nk nv cr cf co cl ce ck cv : Nat) (A : Nat → AR) (K : Nat → ByteArray) (w : World)
    (hA : IsA w ar n A) (hK : IsK w ak nk K) (hW : Wide A n) (hWK : WideK K nk) (hn : n ≤ 9223372036854775807) (_hnf : nf ≤ 9223372036854775807) (_hno : no ≤ 9223372036854775807) (_hnl : nl ≤ 9223372036854775807) (_hne : ne ≤ 9223372036854775807) (hnk : nk ≤ 9223372036854775807) (_hnv : nv ≤ 9223372036854775807) :
    Calls Try.prog 8 #[.int .i64 linger, .int .i64 sNow, .slice ar n cr, .slice af nf cf, .slice ao no co, .slice al nl cl, .slice ae ne ce, .slice ak nk ck, .slice av nv cv, .int .i64 now] w fun e w' => IsBool e (Small A n) ∧ w' = w := by
  by_cases hn2 : n ≤ 1048576
  case neg =>
    go_enter Try.func8, Try.ntmps8
    go_wp2
    go_ret
    exact ⟨IsBool.mk _ _ (fun h => by cases h), rfl⟩
  go_enter Try.func8, Try.ntmps8
  go_wp2
  go_loop [21, 22] (fun z i => ∃ (k : Nat) (y : Int), k ≤ n ∧ i = .int .i64 k ∧ z = .int .i64 y ∧ Small A k) (fun _ i => n - (intOf i).toNat)
  case atStart => exact ⟨0, _, Nat.zero_le _, rfl, rfl, Small.zero A⟩
  case round =>
    obtain ⟨k, y, hk, rfl, rfl, hS⟩ := hrel
    by_cases hlt : k < n
    · obtain ⟨b, off, rfl, hl, c0, c1, c2, c3, c4⟩ := hA.le hlt
      obtain ⟨g1, g2, g3⟩ := hW k hlt
      clear hA hK hW hWK
      by_cases q1 : (A k).id.size ≤ 1048576
      case neg =>
        go_wp2
        go_ret
        exact ⟨IsBool.mk _ _ (fun h => by cases h), rfl⟩
      by_cases q2 : (A k).tl ≤ 1048576
      case neg =>
        go_wp2
        all_goals
          go_ret
          exact ⟨IsBool.mk _ _ (fun h => by cases h), rfl⟩
      by_cases q3 : (A k).ul ≤ 1048576
      case neg =>
        go_wp2
        all_goals
          go_ret
          exact ⟨IsBool.mk _ _ (fun h => by cases h), rfl⟩
      go_wp2
      all_goals first | (go_ret; exact ⟨IsBool.mk _ _ (fun h => by cases h), rfl⟩) | skip
      go_round
      case rel => exact ⟨k + 1, _, by omega, by go_num, rfl, hS.step q1 q2 q3⟩
      case measure => simp [intOf]; omega
    · have e : n = k := by omega
      subst e
      clear hA hW
      go_wp2
      all_goals first | (go_ret; exact ⟨IsBool.mk _ _ (fun h => by cases h), rfl⟩) | skip
      go_loop [21, 23] (fun z i => ∃ (k : Nat) (y : Int), k ≤ nk ∧ i = .int .i64 k ∧ z = .int .i64 y) (fun _ i => nk - (intOf i).toNat)
      case atStart => exact ⟨0, _, Nat.zero_le _, rfl, rfl⟩
      case round =>
        obtain ⟨k, y, hk, rfl, rfl⟩ := hrel
        by_cases hlt : k < nk
        · obtain ⟨b, off, rfl, hl, c0⟩ := hK.le hlt
          have g1 := hWK k hlt
          clear hK hWK
          go_wp2
          all_goals first | (go_ret; exact ⟨IsBool.mk _ _ (fun h => by cases h), rfl⟩) | skip
          go_round
          case rel => exact ⟨k + 1, _, by omega, by go_num, rfl⟩
          case measure => simp [intOf]; omega
        · go_wp2
          all_goals
            go_ret
            exact ⟨IsBool.mk _ _ (fun _ => by first | exact hS | trivial), rfl⟩

end Go.Proofs.Qxb6619458a
