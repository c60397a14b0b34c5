import Derived.Test.Qxb6619458aAEnv
namespace Go.Proofs.Qxb6619458a
open Go.RowKit
attribute [local go_sem ↓] Go.wp_at_zero Go.wp_at_succ

set_option maxRecDepth 100000 in
set_option maxHeartbeats 8000000 in
theorem unch_any (sNow : Int) (aR aF aB aL aE aK : Option Addr) (cR cF cB cL cE cK : Nat) (rb s ob lb n G m B nf ne nk mv gF co : Nat) (a : Nat → Nat) (S : Sum) (A : Nat → AR) (fr la va O : Nat → Int) (ex : Nat → Int × Int) (ky : Nat → ByteArray) (w : World)
    (hE : Env w aR aF aB aL aE aK rb s ob lb n G m B nf ne nk mv a S A ⟨O, Lk la G, fun k => (A k).cl⟩ (qu ex ne) (mpk ky va a nk) fr la va O ex ky) (hFr : FreshIs w s ob lb n a (natT fr) S.fresh nf gF) (hN : Num n G nf ne nk fr la va ex)
    (hnow : S.now = sNow) (hS1 : 0 < G → S.opn = .slice (some ⟨ob, 0, none⟩) G co) (hS2 : S.last = .slice (some ⟨lb, 0, none⟩) G G) (hS4 : S.mp = .map (some m)) :
    Calls Try.prog 14 #[.pointer (some ⟨s, 0, none⟩), .slice (some ⟨rb, 0, none⟩) n n, .int .i64 sNow, .slice aR n cR, .slice aF nf cF, .slice aB G cB, .slice aL G cL, .slice aE ne cE, .slice aK nk cK, .map (some mv)] w fun e w' => e = .returned (.bool true) ∧ Below w.heap.size w w' := by
  have HE := Hid.mk' hE
  have HFr := Hid.mk' hFr
  have HN := Hid.mk' hN
  have H1 := Hid.mk' hS1
  have H2 := Hid.mk' hS2
  have H4 := Hid.mk' hS4
  have b1 := hN.bn
  have b2 := hN.bG
  have b3 := hN.bnf
  have b4 := hN.bne
  have b5 := hN.bnk
  obtain ⟨x17, y17, hx17⟩ := hFr.form
  have HX := Hid.mk' hx17
  have hq40 := neq40
  clear hE hFr hN hS1 hS2 hS4 hx17
  go_enter Try.func14, Try.ntmps14
  go_wp2_with fail
  refine (now_any s S w HE.out.aw.pw.hs).mono ?_
  rintro e w1 ⟨rfl, hw1⟩
  subst hw1
  rw [hnow]
  go_wp2_with fail
  refine (freshLen_any s S x17 nf y17 w1 HE.out.aw.pw.hs HX.out).mono ?_
  rintro e w1 ⟨rfl, hw1⟩
  subst hw1
  go_wp2
  go_loopg [21] nf (fun g i wr => ∃ k : Nat, k ≤ nf ∧ g = nf - k ∧ i = .int .i64 k ∧ Below w1.heap.size w1 wr)
  case atStart => exact ⟨0, Nat.zero_le _, rfl, rfl, Below.refl _ _⟩
  case round =>
    obtain ⟨k, hk, hg, rfl, hb⟩ := hrel
    by_cases hlt : k < nf
    · have hs := (HE.out.below hb).aw.pw.hs
      obtain ⟨b, off, hx, hl, c0⟩ := (HE.out.below hb).iF.le hlt
      subst hx
      obtain ⟨r1, r2⟩ := HN.out.rF k hlt
      obtain ⟨q, hq⟩ : ∃ q : Nat, fr k = q := ⟨(fr k).toNat, by omega⟩
      have c0' := cell_nat c0 hq
      have hqn : q < n := by omega
      have c1 := (HE.out.below hb).rs.cell hqn
      obtain ⟨cF2, hv2, c2⟩ := (HFr.out.below hb).at hlt
      rw [show natT fr k = q from by show (fr k).toNat = q; omega] at c2
      have HA := Hid.mk' (fun x => freshAt_any s gF nf cF2 k _ S (wr.drewN x) hs hv2 hlt c2)
      clear c0 r1 r2 hq hs hv2 c2
      go_wp2
      go_quiet (first | (go_at_call 52; exact Calls.quiet_of_same (HA.out _)))
      clear HA
      have hb' := below_drewN hb nq
      go_wp2
      go_roundg (nf - (k + 1))
      case measure => omega
      case rel => exact ⟨k + 1, by omega, rfl, by go_num, hb'⟩
    · have e : nf = k := by omega
      subst e
      obtain ⟨w2, hw2⟩ : ∃ w2, wr = w2 := ⟨_, rfl⟩
      subst hw2
      clear hg
      go_wp2
      go_loopg [22] G (fun g i wr => ∃ k : Nat, k ≤ G ∧ g = G - k ∧ i = .int .i64 k ∧ Below w1.heap.size w1 wr)
      case atStart => exact ⟨0, Nat.zero_le _, rfl, rfl, hb⟩
      case round =>
        clear hb
        obtain ⟨k, hk, hg, rfl, hb⟩ := hrel
        by_cases hlt : k < G
        · have hs := (HE.out.below hb).aw.pw.hs
          obtain ⟨b, off, hx, hl, c0⟩ := (HE.out.below hb).iB.le hlt
          obtain ⟨b', off', hx', hl', c1⟩ := (HE.out.below hb).iL.le hlt
          subst hx hx'
          obtain ⟨r1, r2⟩ := HN.out.rL k hlt
          have cO : wr.cell? ⟨ob, k, none⟩ = some (.int .i64 (O k)) := (HE.out.below hb).aw.pw.ho.cell hlt
          have cL := (HE.out.below hb).aw.pw.hl.cell hlt
          dsimp only at cL
          rw [Lk_all la G k hlt] at cL
          have HA := Hid.mk' (fun x => open_any s ob G co k (O k) S (wr.drewN x) hs (H1.out (by omega)) hlt cO)
          have HB := Hid.mk' (fun x => last_any s lb G G k _ S (wr.drewN x) hs H2.out hlt cL)
          have HC := Hid.mk' (fun x => lastIs_any rb n n a (la k) (wr.drewN x) (HE.out.below hb).rs r2)
          clear hs cO cL r1 r2
          revert HB HC
          generalize ptr a (dec (la k)) = pv
          intro HB HC
          go_wp2
          go_quiet (first | (go_at_call 18; exact Calls.quiet_of_same (HA.out _)) | (go_at_call 20; exact Calls.quiet_of_same (HB.out _)) | (go_at_call 19; exact Calls.quiet_of_same (HC.out _)))
          clear HA HB HC
          have hb' := below_drewN hb nq
          go_wp2
          go_roundg (G - (k + 1))
          case measure => omega
          case rel => exact ⟨k + 1, by omega, rfl, by go_num, hb'⟩
        · have e : G = k := by omega
          subst e
          obtain ⟨w3, hw3⟩ : ∃ w3, wr = w3 := ⟨_, rfl⟩
          subst hw3
          clear hg
          go_wp2
          go_loopg [23] n (fun g i wr => ∃ k : Nat, k ≤ n ∧ g = n - k ∧ i = .int .i64 k ∧ Below w1.heap.size w1 wr)
          case atStart => exact ⟨0, Nat.zero_le _, rfl, rfl, hb⟩
          case round =>
            clear hb
            obtain ⟨k, hk, hg, rfl, hb⟩ := hrel
            by_cases hlt : k < n
            · have hrk := (HE.out.below hb).aw.pw.hr k hlt
              obtain ⟨b, off, hx, hl, _, _, _, c3, _⟩ := (HE.out.below hb).iR.le hlt
              subst hx
              have c1 := (HE.out.below hb).rs.cell hlt
              have HA : Hid (∀ x, Calls Try.prog 21 #[.pointer (some ⟨a k, 0, none⟩)] (wr.drewN x) fun e w' => e = .returned (.bool (A k).cl) ∧ w' = wr.drewN x) := fun x => clashes_any (a k) _ (wr.drewN x) hrk
              clear hrk
              revert c3 HA
              generalize (A k).cl = cl
              intro c3 HA
              cases cl
              all_goals
                go_wp2
                go_quiet (first | (go_at_call 21; exact Calls.quiet_of_same (HA.out _)))
                clear HA
                have hb' := below_drewN hb nq
                go_wp2
                go_roundg (n - (k + 1))
                case measure => omega
                case rel => exact ⟨k + 1, by omega, rfl, by go_num, hb'⟩
            · have e : n = k := by omega
              subst e
              obtain ⟨w4, hw4⟩ : ∃ w4, wr = w4 := ⟨_, rfl⟩
              subst hw4
              clear hg
              obtain ⟨x21, y21, hx21⟩ := (HE.out.below hb).aw.wi.form
              rw [adr_len, qu_len] at hx21
              go_wp2_with fail
              refine (exLen_any s S x21 ne y21 wr (HE.out.below hb).aw.pw.hs hx21).mono ?_
              rintro e w5 ⟨rfl, hw5⟩
              subst hw5
              clear hx21
              go_wp2
              go_loopg [24, 25, 26] ne (fun g i _ _ wr => ∃ k : Nat, k ≤ ne ∧ g = ne - k ∧ i = .int .i64 k ∧ Below w1.heap.size w1 wr)
              case atStart => exact ⟨0, Nat.zero_le _, rfl, rfl, hb⟩
              case round =>
                clear hb
                obtain ⟨k, hk, hg, rfl, hb⟩ := hrel
                by_cases hlt : k < ne
                · obtain ⟨b, off, hx, hl, c0, c1⟩ := (HE.out.below hb).iE.le hlt
                  subst hx
                  obtain ⟨r1, r2⟩ : 0 ≤ (ex k).2 ∧ (ex k).2 < n := HN.out.rE k hlt
                  obtain ⟨q, hq⟩ : ∃ q : Nat, (ex k).2 = q := ⟨(ex k).2.toNat, by omega⟩
                  have c1' := cell_nat c1 hq
                  have hqn : q < n := by omega
                  have c2 := (HE.out.below hb).rs.cell hqn
                  have hat := qu_at ex a ne k hlt
                  rw [show (ex k).2.toNat = q from by omega] at hat
                  have HA := Hid.mk' (exAtW_any s B S (adr a (qu ex ne)) k (ex k).1 (a q) wr (HE.out.below hb).aw.pw.hs (HE.out.below hb).aw.wi hat)
                  clear c1 r1 r2 hq hat
                  go_wp2_with fail
                  refine HA.out.mono ?_
                  rintro e w6 ⟨rfl, nq, hw6⟩
                  have hbw : Below wr.heap.size wr w6 := by rw [hw6]; exact below_drewN (Below.refl _ _) nq
                  have d0 := (hbw.cell (p := ⟨b, off + k * 2, none⟩) hl).trans c0
                  have d1 := (hbw.cell (p := ⟨b, off + k * 2 + 1, none⟩) hl).trans c1'
                  have d2 := (hbw.cell (p := ⟨rb, q, none⟩) (HE.out.below hb).rs.lt).trans c2
                  have hb' := chain hb hbw
                  clear hw6 hbw HA c0 c1' c2 hb
                  go_wp2
                  go_roundg (ne - (k + 1))
                  case measure => omega
                  case rel => exact ⟨k + 1, by omega, rfl, by go_num, hb'⟩
                · have e : ne = k := by omega
                  subst e
                  obtain ⟨w7, hw7⟩ : ∃ w7, wr = w7 := ⟨_, rfl⟩
                  subst hw7
                  clear hg
                  go_wp2
                  go_loopg [27, 28, 29] nk (fun g i _ _ wr => ∃ k : Nat, k ≤ nk ∧ g = nk - k ∧ i = .int .i64 k ∧ Below w1.heap.size w1 wr)
                  case atStart => exact ⟨0, Nat.zero_le _, rfl, rfl, hb⟩
                  case round =>
                    clear hb
                    obtain ⟨k, hk, hg, rfl, hb⟩ := hrel
                    by_cases hlt : k < nk
                    · obtain ⟨b, off, hx, hl, c0⟩ := (HE.out.below hb).iK.le hlt
                      subst hx
                      obtain ⟨j, hj, e1, e2⟩ := key_val ky va a nk k hlt
                      obtain ⟨r1, r2⟩ := HN.out.rV j hj
                      have HA0 := recOfS_any s m (mpk ky va a nk) S (ky k) wr (HE.out.below hb).aw.pw.hs H4.out (HE.out.below hb).aw.mp
                      rw [e2] at HA0
                      have HA := Hid.mk' HA0
                      have hlk := ((HE.out.below hb).lv.look Try.underlying35 (z := .int .i64 0) (e := 3) (by kernel_rfl) (ky k)).1
                      rw [e1] at hlk
                      have HC := Hid.mk' (lastIs_any rb n n a (va j) wr (HE.out.below hb).rs r2)
                      clear HA0 e1 e2 r1 r2
                      revert HA HC
                      generalize ptr a (dec (va j)) = pv
                      intro HA HC
                      go_wp2_with fail
                      refine HA.out.mono ?_
                      rintro e w8 ⟨rfl, hw8⟩
                      subst hw8
                      go_wp2_with fail
                      refine HC.out.mono ?_
                      rintro e w8 ⟨rfl, hw8⟩
                      subst hw8
                      clear HA HC hlk
                      go_wp2
                      go_roundg (nk - (k + 1))
                      case measure => omega
                      case rel => exact ⟨k + 1, by omega, rfl, by go_num, hb⟩
                    · go_wp2
                      go_ret
                      exact ⟨rfl, hb⟩

end Go.Proofs.Qxb6619458a
