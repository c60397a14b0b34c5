import Derived.Test.Qxb6619458aAAdv2
import Derived.Deep.AppendLies
namespace Go.Proofs.Qxb6619458a
open Go.RowKit
attribute [local go_sem ↓] Go.wp_at_zero Go.wp_at_succ

theorem Try.info40 : (Try.prog.info? 40).map (fun i => (i.zero, i.size, i.bytes)) = some (some (.pointer none), 1, 8) := by kernel_rfl

set_option maxRecDepth 100000 in
set_option maxHeartbeats 1000000 in
theorem setLast_any (s lb G g : Nat) (q : Value) (r : Option Addr) (f : Nat → Value) (S : Sum) (w : World) (hq : q = .pointer r) (hs : Blk w s S.cells 96) (hl : S.last = .slice (some ⟨lb, 0, none⟩) G G) (hr : w.rowIs lb 40 G f) (hg : g < G) :
    Calls Try.prog 48 #[.pointer (some ⟨s, 0, none⟩), .int .i64 (g : Int), q] w fun e w' => e = .returned (.tuple #[]) ∧ w' = w.setCell ⟨lb, g, none⟩ q := by
  subst hq
  have c18 : w.cell? ⟨s, 18, none⟩ = some (.slice (some ⟨lb, 0, none⟩) G G) := by rw [← hl]; exact hs.cell rfl
  have cg := hr.cell hg
  have fg := hr.frozen g
  clear hl
  go_enter Try.func48, Try.ntmps48
  go_wp2
  go_end0
  exact ⟨rfl, rfl⟩

set_option maxRecDepth 100000 in
set_option maxHeartbeats 1000000 in
theorem addFresh_any (s B n r : Nat) (xs : List Value) (S : Sum) (w : World) (hs : Blk w s S.cells 96) (hsB : s < B) (hB : B ≤ w.heap.size) (hx : w.ownsRow B 40 1 S.fresh n xs) (hn : n ≤ 1000000) :
    Calls Try.prog 49 #[.pointer (some ⟨s, 0, none⟩), .pointer (some ⟨r, 0, none⟩)] w fun e w' => e = .returned (.tuple #[]) ∧
      ∃ v', Blk w' s (Sum.cells { S with fresh := v' }) 96 ∧ w'.ownsRow B 40 1 v' (n + 1) (xs ++ [.pointer (some ⟨r, 0, none⟩)]) ∧ Fr (fun i => i = s ∨ B ≤ i) w w' := by
  obtain ⟨ao, c, hv⟩ : ∃ ao c, S.fresh = .slice ao n c := by
    rcases hx.2 with ⟨h1, h2⟩ | ⟨g, cap, cur, h1, _⟩
    · exact ⟨none, 0, by rw [h1, h2]⟩
    · exact ⟨_, cap, h1⟩
  have c17 : w.cell? ⟨s, 17, none⟩ = some (.slice ao n c) := by rw [← hv]; exact hs.cell rfl
  have HX : Hid (w.ownsRow B 40 1 (.slice ao n c) n xs) := by rw [← hv]; exact hx
  have HV : Hid (S.fresh = .slice ao n c) := hv
  clear hv hx
  obtain ⟨i0, hi, hz0, hz1, hz2⟩ := info_parts Try.info40
  have hsl := hs.lt
  go_enter Try.func49, Try.ntmps49
  go_wp2_with (at_builtin; refine wpList_append_lies _ rfl (.tmp 8) (.tmp 10) 30 rfl B 40 i0 (.pointer none) 1 8 Try.underlying30 hi hz0 hz1 hz2 rfl (by decide) (.slice ao n c) n xs rfl ?hown ⟨w.heap.size, 0, none⟩ 1 1 [.pointer (some ⟨r, 0, none⟩)] rfl rfl ?hnews ?h1 (by omega) ?h63 ?hby ?hba (w.heap.size + 1) ?hH ?_)
  case hown => exact HX.out.alloc _
  case hnews => exact World.news_of_block (heap_alloc_new w (.cells #[.pointer (some ⟨r, 0, none⟩)] 40))
  case h1 => intro u hu; simp at hu; subst hu; rfl
  case h63 => unfold maxLen; omega
  case hby => omega
  case hba => simp; omega
  case hH => simp
  intro g cap w1 hown hgr hat hlt
  have hob : ∀ k, (Value.slice ao n c).ownBlock = some k → B ≤ k := fun k hk => (HX.out.lt k hk).1
  have F1 : Fr (fun i => B ≤ i) w w1 := by
    refine ⟨hgr.os, hgr.tape, hgr.output, ?_, fun k hk hn => ?_⟩
    · have := hgr.size; simp at this; omega
    · rw [hgr.block k (by simp; omega) (fun e => hn (hob k e.symm)), Below.heap_alloc _ _ _ hk]
  have s1 : Blk w1 s S.cells 96 := hs.fr F1 (by omega)
  have g17 : w1.cell? ⟨s, 17, none⟩ = some (.slice ao n c) := by rw [← HV.out]; exact s1.cell rfl
  have k17 := s1.frozen 17
  have HO := Hid.mk' hown
  have HF := Hid.mk' F1
  clear hown hgr hat hob F1 c17
  go_wp2
  go_end0
  refine ⟨rfl, .slice (some ⟨g, 0, none⟩) (n + 1) cap, s1.set 17 _, ?_, (HF.out.mono (fun _ _ q => .inr q)).setCell (p := ⟨s, 17, none⟩) (.inl (.inl rfl)) _⟩
  exact ownsRow_setCell_below HO.out (a := ⟨s, 17, none⟩) hsB _

set_option maxRecDepth 100000 in
set_option maxHeartbeats 1000000 in
theorem addExp_any (s B r : Nat) (t : Int) (E : List (Int × Nat)) (S : Sum) (w : World) (hs : Blk w s S.cells 96) (hsB : s < B) (hB : B ≤ w.heap.size) (hx : Ex w B S.ex E) (hE : E.length ≤ 1000000) :
    Calls Try.prog 50 #[.pointer (some ⟨s, 0, none⟩), .int .i64 t, .pointer (some ⟨r, 0, none⟩)] w fun e w' => e = .returned (.tuple #[]) ∧
      ∃ v', Blk w' s (Sum.cells { S with ex := v' }) 96 ∧ Ex w' B v' (E ++ [(t, r)]) ∧ Fr (fun i => i = s ∨ B ≤ i) w w' := by
  obtain ⟨ao, c, hv⟩ := hx.form
  have c21 : w.cell? ⟨s, 21, none⟩ = some (.slice ao E.length c) := by rw [← hv]; exact hs.cell rfl
  have HX : Hid (Ex w B (.slice ao E.length c) E) := by rw [← hv]; exact hx
  have HV : Hid (S.ex = .slice ao E.length c) := hv
  clear hv hx
  obtain ⟨i0, hi, hz0, hz1, hz2⟩ := info_parts Try.info101
  have hsl := hs.lt
  go_enter Try.func50, Try.ntmps50
  go_wp2_with (at_builtin; refine wpList_append_lies _ rfl (.tmp 10) (.tmp 14) 94 rfl B 101 i0 (.agg #[.int .i64 0, .pointer none]) 2 16 Try.underlying94 hi hz0 hz1 hz2 rfl (by decide) (.slice ao E.length c) E.length (exs E) rfl ?hown ⟨w.heap.size, 0, none⟩ 1 1 [.int .i64 t, .pointer (some ⟨r, 0, none⟩)] rfl rfl ?hnews ?h1 (by omega) ?h63 ?hby ?hba (w.heap.size + 1) ?hH ?_)
  case hown => exact HX.out.alloc _
  case hnews => exact World.news_of_block (heap_alloc_new w (.cells #[.int .i64 t, .pointer (some ⟨r, 0, none⟩)] 101))
  case h1 => intro u hu; simp at hu; rcases hu with rfl | rfl <;> rfl
  case h63 => unfold maxLen; omega
  case hby => omega
  case hba => simp; omega
  case hH => simp
  intro g cap w1 hown hgr hat hlt
  have hob : ∀ k, (Value.slice ao E.length c).ownBlock = some k → B ≤ k := fun k hk => (HX.out.lt k hk).1
  have F1 : Fr (fun i => B ≤ i) w w1 := by
    refine ⟨hgr.os, hgr.tape, hgr.output, ?_, fun k hk hn => ?_⟩
    · have := hgr.size; simp at this; omega
    · rw [hgr.block k (by simp; omega) (fun e => hn (hob k e.symm)), Below.heap_alloc _ _ _ hk]
  have s1 : Blk w1 s S.cells 96 := hs.fr F1 (by omega)
  have g21 : w1.cell? ⟨s, 21, none⟩ = some (.slice ao E.length c) := by rw [← HV.out]; exact s1.cell rfl
  have k21 := s1.frozen 21
  have HO : Hid (Ex w1 B (.slice (some ⟨g, 0, none⟩) (E.length + 1) cap) (E ++ [(t, r)])) := by
    show w1.ownsRow B 101 2 _ (E ++ [(t, r)]).length (exs (E ++ [(t, r)]))
    rw [exs_append, List.length_append]
    exact hown
  have HF := Hid.mk' F1
  clear hown hgr hat hob F1 c21
  go_wp2
  go_end0
  refine ⟨rfl, .slice (some ⟨g, 0, none⟩) (E.length + 1) cap, s1.set 21 _, ?_, (HF.out.mono (fun _ _ q => .inr q)).setCell (p := ⟨s, 21, none⟩) (.inl (.inl rfl)) _⟩
  exact ownsRow_setCell_below HO.out (a := ⟨s, 21, none⟩) hsB _

set_option maxRecDepth 100000 in
set_option maxHeartbeats 1000000 in
theorem setRecS_any (s m : Nat) (q : Value) (r : Option Addr) (M : ByteArray → Option Value) (S : Sum) (id : ByteArray) (w : World) (hq : q = .pointer r) (hs : Blk w s S.cells 96) (hm : S.mp = .map (some m)) (hM : MapS w m M) :
    Calls Try.prog 38 #[.pointer (some ⟨s, 0, none⟩), .string id, q] w fun e w' => e = .returned (.tuple #[]) ∧ MapS w' m (upM M id (some q)) ∧ Fr (· = m) w w' := by
  subst hq
  have c20 : w.cell? ⟨s, 20, none⟩ = some (.map (some m)) := by rw [← hm]; exact hs.cell rfl
  obtain ⟨w1, hp, h1, h2⟩ := hM.put Try.underlying93 id (.pointer r)
  have H1 := Hid.mk' h1
  have H2 := Hid.mk' h2
  clear hm hs hM h1 h2
  go_enter Try.func38, Try.ntmps38
  go_wp2
  go_end0
  exact ⟨rfl, H1.out, H2.out⟩

theorem zero40 (w : World) : (zeroValue 40).run Try.prog w = .ok (.pointer none) w := by kernel_rfl

set_option maxRecDepth 100000 in
set_option maxHeartbeats 1000000 in
theorem recOfS_any (s m : Nat) (M : ByteArray → Option Value) (S : Sum) (id : ByteArray) (w : World) (hs : Blk w s S.cells 96) (hm : S.mp = .map (some m)) (hM : MapS w m M) :
    Calls Try.prog 24 #[.pointer (some ⟨s, 0, none⟩), .string id] w fun e w' => e = .returned (.tuple #[(M id).getD (.pointer none), .bool (M id).isSome]) ∧ w' = w := by
  have c20 : w.cell? ⟨s, 20, none⟩ = some (.map (some m)) := by rw [← hm]; exact hs.cell rfl
  have hp := (hM.look Try.underlying93 (zero40 w) id).2
  clear hm hs hM
  revert hp
  generalize (M id).getD (.pointer none) = q
  generalize (M id).isSome = b
  intro hp
  go_enter Try.func24, Try.ntmps24
  go_wp2
  go_ret2
  exact ⟨rfl, rfl⟩

set_option maxRecDepth 100000 in
set_option maxHeartbeats 1000000 in
theorem freshLen_any (b : Nat) (S : Sum) (a : Option Addr) (m c : Nat) (w : World) (h : Blk w b S.cells 96) (hx : S.fresh = .slice a m c) :
    Calls Try.prog 16 #[.pointer (some ⟨b, 0, none⟩)] w fun e w' => e = .returned (.int .i64 (m : Int)) ∧ w' = w := by
  have c0 : w.cell? ⟨b, 17, none⟩ = some (.slice a m c) := by rw [← hx]; exact h.cell rfl
  clear hx
  go_enter Try.func16, Try.ntmps16
  go_wp2
  go_ret
  exact ⟨rfl, rfl⟩

set_option maxRecDepth 100000 in
set_option maxHeartbeats 1000000 in
theorem freshAt_any (s gF nf cF i : Nat) (q : Value) (S : Sum) (w : World) (h : Blk w s S.cells 96) (hx : S.fresh = .slice (some ⟨gF, 0, none⟩) nf cF) (hi : i < nf) (hc : w.cell? ⟨gF, i, none⟩ = some q) :
    Calls Try.prog 52 #[.pointer (some ⟨s, 0, none⟩), .int .i64 (i : Int)] w fun e w' => e = .returned q ∧ w' = w := by
  have c0 : w.cell? ⟨s, 17, none⟩ = some (.slice (some ⟨gF, 0, none⟩) nf cF) := by rw [← hx]; exact h.cell rfl
  clear hx
  go_enter Try.func52, Try.ntmps52
  go_wp2
  go_ret
  exact ⟨rfl, rfl⟩

set_option maxRecDepth 100000 in
set_option maxHeartbeats 1000000 in
theorem open_any (s ob G c g : Nat) (v : Int) (S : Sum) (w : World) (h : Blk w s S.cells 96) (hx : S.opn = .slice (some ⟨ob, 0, none⟩) G c) (hg : g < G) (hc : w.cell? ⟨ob, g, none⟩ = some (.int .i64 v)) :
    Calls Try.prog 18 #[.pointer (some ⟨s, 0, none⟩), .int .i64 (g : Int)] w fun e w' => e = .returned (.int .i64 v) ∧ w' = w := by
  have c0 : w.cell? ⟨s, 19, none⟩ = some (.slice (some ⟨ob, 0, none⟩) G c) := by rw [← hx]; exact h.cell rfl
  clear hx
  go_enter Try.func18, Try.ntmps18
  go_wp2
  go_ret
  exact ⟨rfl, rfl⟩

set_option maxRecDepth 100000 in
set_option maxHeartbeats 1000000 in
theorem last_any (s lb G c g : Nat) (v : Value) (S : Sum) (w : World) (h : Blk w s S.cells 96) (hx : S.last = .slice (some ⟨lb, 0, none⟩) G c) (hg : g < G) (hc : w.cell? ⟨lb, g, none⟩ = some v) :
    Calls Try.prog 20 #[.pointer (some ⟨s, 0, none⟩), .int .i64 (g : Int)] w fun e w' => e = .returned v ∧ w' = w := by
  have c0 : w.cell? ⟨s, 18, none⟩ = some (.slice (some ⟨lb, 0, none⟩) G c) := by rw [← hx]; exact h.cell rfl
  clear hx
  go_enter Try.func20, Try.ntmps20
  go_wp2
  go_ret
  exact ⟨rfl, rfl⟩

end Go.Proofs.Qxb6619458a
