import Derived.Test.Qxb6619458aAClone
namespace Go.Proofs.Qxb6619458a
open Go.RowKit
attribute [local go_sem ↓] Go.wp_at_zero Go.wp_at_succ

/-- Five cells that can be written. -/
def Own5 (w : World) (b o : Nat) : Prop := ∃ y0 y1 y2 y3 y4 : Value, w.cell? ⟨b, o, none⟩ = some y0 ∧ w.cell? ⟨b, o + 1, none⟩ = some y1 ∧ w.cell? ⟨b, o + 2, none⟩ = some y2 ∧ w.cell? ⟨b, o + 3, none⟩ = some y3 ∧ w.cell? ⟨b, o + 4, none⟩ = some y4 ∧ w.frozen? ⟨b, o, none⟩ = false ∧ w.frozen? ⟨b, o + 1, none⟩ = false ∧ w.frozen? ⟨b, o + 2, none⟩ = false ∧ w.frozen? ⟨b, o + 3, none⟩ = false ∧ w.frozen? ⟨b, o + 4, none⟩ = false

theorem own5 {w w' : World} {b t n k : Nat} {c : Array Value} (h : Blk w b c t) (hs : c.size = n * 5) (hk : k < n) (hb : Below w.heap.size w w') : Own5 w' b (k * 5) :=
  ⟨c[k * 5]'(by omega), c[k * 5 + 1]'(by omega), c[k * 5 + 2]'(by omega), c[k * 5 + 3]'(by omega), c[k * 5 + 4]'(by omega), (h.below hb).cell (Array.getElem?_eq_getElem _), (h.below hb).cell (Array.getElem?_eq_getElem _), (h.below hb).cell (Array.getElem?_eq_getElem _), (h.below hb).cell (Array.getElem?_eq_getElem _), (h.below hb).cell (Array.getElem?_eq_getElem _), (h.below hb).frozen _, (h.below hb).frozen _, (h.below hb).frozen _, (h.below hb).frozen _, (h.below hb).frozen _⟩

set_option maxRecDepth 100000 in
set_option maxHeartbeats 4000000 in
theorem cloneA_any (a : Option Addr) (n c : Nat) (A : Nat → AR) (T U : Nat → Nat → Int) (w : World) (hn : n ≤ 65536) (hA : IsA w a n A) (hT : IsT w n A T) (hU : IsU w n A U) (hS : Small A n) :
    Calls Try.prog 10 #[.slice a n c] w fun e w' => ∃ a' c' A', e = .returned (.slice a' n c') ∧ IsA w' a' n A' ∧ IsT w' n A' T ∧ (∀ k, k < n → SameA (A k) (A' k)) ∧ Below w.heap.size w w' := by
  have hq : ∀ (w : World) (a : Option Addr) (n c : Nat), (binOp .eql 22 (.slice a n c) (.slice none 0 0)).run Try.prog w = .ok (.bool a.isNone) w := fun w a n c => Lib.run_eql_slice_nil w _ _ a n c 0 0 Try.underlying22
  have h0 : a = none → n = 0 := fun e => by
    rcases hA with h | ⟨b, off, ha, _⟩
    · omega
    · rw [e] at ha; cases ha
  rcases a with _ | x
  · have e0 := h0 rfl
    subst e0
    clear hA hT hU h0
    go_enter Try.func10, Try.ntmps10
    go_wp2
    go_ret
    exact ⟨none, 0, A, rfl, .inl (Nat.le_refl _), fun k hk => by omega, fun k hk => by omega, Below.refl _ _⟩
  · clear h0
    obtain ⟨ZC, hZ, hmk⟩ := make42 n hn
    have HT := Hid.mk' hT
    have HU := Hid.mk' hU
    have HS := Hid.mk' hS
    have HZ := Hid.mk' hZ
    clear hT hU hS hZ
    go_enter Try.func10, Try.ntmps10
    go_wp2
    clear hmk
    go_loopg [4] n (fun g i wr => ∃ (k : Nat) (A' : Nat → AR), k ≤ n ∧ g = n - k ∧ i = .int .i64 k ∧ CL w wr w.heap.size n k A A' T)
    case atStart => exact ⟨0, A, Nat.zero_le _, rfl, rfl, ⟨⟨ZC, Blk.new _ _ _, HZ.out, fun i hi => by omega⟩, fun i hi => by omega, fun i hi => by omega, (Below.refl _ _).alloc (Nat.le_refl _) _⟩⟩
    case round =>
      obtain ⟨k, A', hk, hg, rfl, hC⟩ := hrel
      have HC := Hid.mk' hC
      clear hC
      by_cases hlt : k < n
      · obtain ⟨b, off, hx, hl, c0, c1, c2, c3, c4⟩ := hA.le hlt
        simp only [Option.some.injEq] at hx
        subst hx
        obtain ⟨c0, c1, c2, c3, c4⟩ := keep5 HC.out.be hl ⟨c0, c1, c2, c3, c4⟩
        have nb : ¬ b = w.heap.size := by omega
        have hTk := (HT.out k hlt).below HC.out.be
        have hUk := (HU.out k hlt).below HC.out.be
        obtain ⟨_, s1, s2⟩ := HS.out k hlt
        obtain ⟨cc, hcb, hcs, _⟩ := HC.out.blk
        have zr := HC.out.be.size
        have zc := hcb.lt
        have HTk := Hid.mk' hTk
        have HUk := Hid.mk' hUk
        have HCB := Hid.mk' hcb
        have HCS := Hid.mk' hcs
        clear hTk hUk hA hcb hcs
        have lb : b < wr.heap.size := by omega
        go_wp2
        go_region_held3 (fun w' => w'.cell? ⟨b, off + k * 5, none⟩ = some (.string (A k).id) ∧ w'.cell? ⟨b, off + k * 5 + 1, none⟩ = some (.slice (A k).ta (A k).tl (A k).tc) ∧ w'.cell? ⟨b, off + k * 5 + 2, none⟩ = some (.slice (A k).ua (A k).ul (A k).uc) ∧ w'.cell? ⟨b, off + k * 5 + 3, none⟩ = some (.bool (A k).cl) ∧ w'.cell? ⟨b, off + k * 5 + 4, none⟩ = some (.int .i64 (A k).h))
          (first | exact keep5f ((((((Fr.ofBelow (O := (· = w.heap.size)) (chain ((Below.refl wr.heap.size wr).drew.trans b1) b2)).setAt _ _).setAt _ _).setAt _ _).setAt _ _).setAt _ _) lb nb ⟨c0, c1, c2, c3, c4⟩ | exact keep5 (chain ((Below.refl wr.heap.size wr).drew.trans b1) b2) lb ⟨c0, c1, c2, c3, c4⟩ | exact keep5 ((Below.refl wr.heap.size wr).drew.trans b1) lb ⟨c0, c1, c2, c3, c4⟩ | exact ⟨c0, c1, c2, c3, c4⟩)
          (first | (go_at_call 11; have hbb := b1; refine (cloneInts_any (A k).ua (A k).ul (A k).uc (U k) _ s2 ?_).mono ?_; (exact (HUk.out.below (Below.refl wr.heap.size wr).drew).below b1); rintro e w2 ⟨a2, c2', rfl, h2, b2⟩; clear hbb; obtain ⟨y0, y1, y2, y3, y4, g0, g1, g2, g3, g4, f0, f1, f2, f3, f4⟩ := own5 HCB.out HCS.out hlt (chain ((Below.refl wr.heap.size wr).drew.trans b1) b2)) | (go_at_call 11; (fail_if_success (have hbb := b1)); refine (cloneInts_any (A k).ta (A k).tl (A k).tc (T k) _ s1 ?_).mono ?_; (exact HTk.out.below (Below.refl wr.heap.size wr).drew); rintro e w1 ⟨a1, c1', rfl, h1, b1⟩))
        have HN := Hid.mk' (HC.out.step (c1 := c1') (c2 := c2') (U := U) hlt rfl h1 ((Below.refl wr.heap.size wr).drew.trans b1) h2 b2)
        clear h1 h2 b1 b2 g0 g1 g2 g3 g4 f0 f1 f2 f3 f4 c0 c1 c2 c3 c4
        go_wp2
        go_roundg (n - (k + 1))
        case measure => omega
        case rel => exact ⟨k + 1, _, by omega, rfl, by go_num, HN.out⟩
      · have e : n = k := by omega
        subst e
        clear hA
        go_wp2
        go_ret
        refine ⟨_, _, A', rfl, ?_, fun k hk => (HC.out.tos k hk).isI, HC.out.same, HC.out.be⟩
        obtain ⟨c, hb, hs, h5⟩ := HC.out.blk
        refine .inr ⟨w.heap.size, 0, rfl, hb.lt, fun i hi => ?_, fun i hi => ?_, fun i hi => ?_, fun i hi => ?_, fun i hi => ?_⟩
        · rw [Nat.zero_add]; exact hb.cell (h5 i hi).1
        · rw [Nat.zero_add]; exact hb.cell (h5 i hi).2.1
        · rw [Nat.zero_add]; exact hb.cell (h5 i hi).2.2.1
        · rw [Nat.zero_add]; exact hb.cell (h5 i hi).2.2.2.1
        · rw [Nat.zero_add]; exact hb.cell (h5 i hi).2.2.2.2

end Go.Proofs.Qxb6619458a
