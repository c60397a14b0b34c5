import Derived.Test.Qxb6619458aABld
import Derived.Test.Qxb6619458aAClone
import Derived.Deep.RegionHeld3
namespace Go.Proofs.Qxb6619458a
open Go.RowKit
attribute [local go_sem ↓] Go.wp_at_zero Go.wp_at_succ

theorem cell_nat {w : World} {a : Addr} {v : Int} {q : Nat} (h : w.cell? a = some (.int .i64 v)) (hq : v = q) : w.cell? a = some (.int .i64 (q : Int)) := by rw [h, hq]

/-- The fresh records, laid. -/
theorem FreshIs.of {w : World} {B s ob lb n m nf rb : Nat} {h : Nat} {a : Nat → Nat} {fr : Nat → Int} {v : Value} (st : Sta h B rb s ob lb n m a) (ho : w.ownsRow B 40 1 v nf (frs a fr nf)) (hz : nf = 0 → v = .slice none 0 0) :
    ∃ gF, FreshIs w s ob lb n a (natT fr) v nf gF ∧ h ≤ gF ∧ (gF < w.heap.size ∨ gF = s) ∧ gF ≠ m ∧ gF ≠ rb := by
  by_cases h0 : nf = 0
  · exact ⟨s, .inl ⟨h0, hz h0⟩, st.gS, .inr rfl, st.lo.ms.symm, st.rs.symm⟩
  · rcases ho.2 with ⟨_, h1⟩ | ⟨g, cap, cur, hv, hg, hb, hc1, hc2, hc3, hc4⟩
    · exact absurd h1 h0
    · have hl := (Array.getElem?_eq_some_iff.1 hb).1
      have q1 := st.lo.bs
      have q2 := st.lo.bo
      have q3 := st.lo.bl
      have q4 := st.lo.bm
      have q5 := st.rB
      have q6 := st.gR
      refine ⟨g, .inr ⟨cap, cur, hv, by omega, hb, fun i hi => ?_, by omega, by omega, by omega, fun k hk => ?_⟩, by omega, .inl hl, by omega, by omega⟩
      · rw [Nat.mul_one] at hc4
        rw [← Array.getElem?_toList, ← List.getElem?_take_of_lt hi, hc4]
        simp [frs, hi]
      · have := st.lo.ba k hk
        omega

theorem FreshIs.fr {F : Nat → Prop} {w w' : World} {s ob lb n nf gF : Nat} {a fk : Nat → Nat} {v : Value} (h : FreshIs w s ob lb n a fk v nf gF) (f : Fr F w w') (hn : ¬ F gF) : FreshIs w' s ob lb n a fk v nf gF := by
  rcases h with h | ⟨cF, cur, hv, h0, hb, h1⟩
  · exact .inl h
  · exact .inr ⟨cF, cur, hv, h0, hb.fr f hn, h1⟩

theorem FreshIs.turn {B : Nat} {w w' : World} {s ob lb n nf gF : Nat} {a fk : Nat → Nat} {v : Value} (h : FreshIs w s ob lb n a fk v nf gF) (f : Fr (fun i => i = s ∨ B ≤ i) w w') (hn : gF < B) : FreshIs w' s ob lb n a fk v nf gF := by
  rcases h with h | ⟨cF, cur, hv, h0, hb, h1, h2, h3⟩
  · exact .inl h
  · exact .inr ⟨cF, cur, hv, h0, hb.fr f (by omega), h1, h2, h3⟩

theorem keep3f {F : Nat → Prop} {w w' : World} {b o b' o' : Nat} {v0 v1 v2 : Value} (hb : Fr F w w') (hl : b < w.heap.size) (hn : ¬ F b) (hl' : b' < w.heap.size) (hn' : ¬ F b') (h : w.cell? ⟨b, o, none⟩ = some v0 ∧ w.cell? ⟨b, o + 1, none⟩ = some v1 ∧ w.cell? ⟨b', o', none⟩ = some v2) :
    w'.cell? ⟨b, o, none⟩ = some v0 ∧ w'.cell? ⟨b, o + 1, none⟩ = some v1 ∧ w'.cell? ⟨b', o', none⟩ = some v2 := by
  have key : ∀ j, w'.cell? ⟨b, j, none⟩ = w.cell? ⟨b, j, none⟩ := fun j => World.cell?_of_block (w := w) (a := ⟨b, j, none⟩) (hb.block b hl hn)
  have key' : ∀ j, w'.cell? ⟨b', j, none⟩ = w.cell? ⟨b', j, none⟩ := fun j => World.cell?_of_block (w := w) (a := ⟨b', j, none⟩) (hb.block b' hl' hn')
  rw [key, key, key']
  exact h

set_option maxRecDepth 100000 in
set_option maxHeartbeats 8000000 in
theorem build_any (linger now : Int) (aR aF ao aL aE aK aV : Option Addr) (n cR nf cF G co cL ne cE nk cK cV ob : Nat) (A : Nat → AR) (fr la va O : Nat → Int) (ex : Nat → Int × Int) (ky : Nat → ByteArray) (w : World)
    (hn : n ≤ 65536) (hnf : nf ≤ 65536) (hG : G ≤ 65536) (hne : ne ≤ 65536) (hnk : nk ≤ 65536)
    (hA : IsA w aR n A) (hF : IsI w aF nf fr) (hO : OW w ob G O) (hob : ob ≤ w.heap.size) (hob2 : 0 < G → ob < w.heap.size) (hL : IsI w aL G la) (hE : IsS w aE ne ex) (hK : IsK w aK nk ky) (hV : IsI w aV nk va)
    (hrF : InR fr 0 n nf) (hrL : InR la (-1) n G) (hrE : InR (fun i => (ex i).2) 0 n ne) (hrV : InR va (-1) n nk) :
    Calls Try.prog 12 #[.int .i64 linger, .int .i64 now, .slice aR n cR, .slice aF nf cF, .slice ao G co, .slice aL G cL, .slice aE ne cE, .slice aK nk cK, .slice aV nk cV] w fun e w' =>
      ∃ rb s lb m gF B a S, e = .returned (.tuple #[.slice (some ⟨rb, 0, none⟩) n n, .pointer (some ⟨s, 0, none⟩)]) ∧ S.linger = linger ∧ S.now = now ∧ S.opn = .slice ao G co ∧
        Built w w' rb s ob lb n G m gF B nf a (natT fr) S A ⟨O, Lk la G, fun k => (A k).cl⟩ (qu ex ne) (mpk ky va a nk) := by
  have HA := Hid.mk' hA
  have HF := Hid.mk' hF
  have HO := Hid.mk' hO
  have HL := Hid.mk' hL
  have HE := Hid.mk' hE
  have HK := Hid.mk' hK
  have HV := Hid.mk' hV
  have HrF := Hid.mk' hrF
  have HrL := Hid.mk' hrL
  have HrE := Hid.mk' hrE
  have HrV := Hid.mk' hrV
  have HB2 := Hid.mk' hob2
  clear hA hF hO hL hE hK hV hrF hrL hrE hrV hob2
  have hmk := run_make_row' (P := Try.prog) 30 40 (.pointer none) 8 Try.underlying30 (by kernel_rfl) rfl .i64 .i64 n (by omega) (by omega)
  go_enter Try.func12, Try.ntmps12
  go_wp2
  clear hmk
  go_loopg [21] n (fun g i wr => ∃ (k : Nat) (a : Nat → Nat), k ≤ n ∧ g = n - k ∧ i = .int .i64 k ∧ MkA w wr w.heap.size k n a A)
  case atStart => exact ⟨0, fun _ => 0, Nat.zero_le _, rfl, rfl, MkA.start w n _ A⟩
  case round =>
    obtain ⟨k, a, hk, hg, rfl, hM⟩ := hrel
    have HM := Hid.mk' hM
    clear hM
    by_cases hlt : k < n
    · obtain ⟨b, off, hx, hl, c0, c1, c2, c3, c4⟩ := HA.out.le hlt
      subst hx
      obtain ⟨c0, c1, c2, c3, c4⟩ := keep5 HM.out.be hl ⟨c0, c1, c2, c3, c4⟩
      have nb : ¬ b = w.heap.size := by omega
      have lP := HM.out.pa.lt
      have lb : b < wr.heap.size := by omega
      go_wp2
      go_region_held3 (fun w' => w'.cell? ⟨b, off + k * 5, none⟩ = some (.string (A k).id) ∧ w'.cell? ⟨b, off + k * 5 + 1, none⟩ = some (.slice (A k).ta (A k).tl (A k).tc) ∧ w'.cell? ⟨b, off + k * 5 + 2, none⟩ = some (.slice (A k).ua (A k).ul (A k).uc) ∧ w'.cell? ⟨b, off + k * 5 + 3, none⟩ = some (.bool (A k).cl) ∧ w'.cell? ⟨b, off + k * 5 + 4, none⟩ = some (.int .i64 (A k).h))
        (first | exact keep5f (((Fr.ofBelow (O := (· = w.heap.size)) (Below.refl wr.heap.size wr).drew).trans (Fr.ofBelow (O := (· = w.heap.size)) b1) (fun _ _ q => q)).setAt _ _) lb nb ⟨c0, c1, c2, c3, c4⟩ | exact keep5 ((Below.refl wr.heap.size wr).drew.trans b1) lb ⟨c0, c1, c2, c3, c4⟩ | exact ⟨c0, c1, c2, c3, c4⟩)
        (first | (go_at_call 46; (fail_if_success (have hbb := b1)); refine (newRec_two (A k).id (A k).ta (A k).ua (A k).tl (A k).tc (A k).ul (A k).uc (A k).cl (A k).h _).mono ?_; rintro e w1 ⟨g1, rfl, hg1, hr1, b1⟩; have pa1 := (HM.out.pa.of_block (b1.block _ lP)); have x1 := pa1.cell hlt; have x2 := pa1.frozen k; clear pa1))
      have HS := Hid.mk' (HM.out.step hg1 hr1 ((Below.refl wr.heap.size wr).drew.trans b1))
      clear b1 hg1 hr1 x1 x2 c0 c1 c2 c3 c4
      go_wp2
      go_roundg (n - (k + 1))
      case measure => omega
      case rel => exact ⟨k + 1, _, by omega, rfl, by go_num, HS.out⟩
    · have e : n = k := by omega
      subst e
      have ST := Hid.mk' (Sta.start HM.out hob)
      go_wp2_with fail
      refine (newSumG_any linger now ao G co wr hG).mono ?_
      rintro e w4 ⟨rfl, h4⟩
      have HB := Hid.mk' (Bd.start (la := la) linger now ao HM.out HO.out HB2.out h4)
      have HZ : Hid (w4.heap.size = wr.heap.size + 3) := by
        show w4.heap.size = wr.heap.size + 3
        rw [h4]; simp
      have HBZ : Hid (wr.heap.size + 3 ≤ w4.heap.size) := Nat.le_of_eq HZ.out.symm
      clear HM h4 HZ
      revert HB ST HBZ
      generalize wr.heap.size = lb
      intro ST0 HB0 HBZ0
      obtain ⟨s, hs⟩ : ∃ s, lb + 2 = s := ⟨_, rfl⟩
      obtain ⟨m, hm⟩ : ∃ m, lb + 1 = m := ⟨_, rfl⟩
      obtain ⟨B0, hB0⟩ : ∃ B0, lb + 3 = B0 := ⟨_, rfl⟩
      obtain ⟨S, hS⟩ : ∃ S, newG linger now ao G co lb m = S := ⟨_, rfl⟩
      have ST : Hid (Sta w.heap.size B0 w.heap.size s ob lb n m a) := by rw [← hs, ← hm, ← hB0]; exact ST0
      have HB : Hid (Bd w w4 w.heap.size s ob lb n G m a S A ⟨O, Lk la 0, fun k => (A k).cl⟩ (fun _ => none)) := by rw [← hS, ← hs, ← hm]; exact HB0
      have HBZ : Hid (B0 ≤ w4.heap.size) := by rw [← hB0]; exact HBZ0
      have HSE := Hid.mk' hS
      clear ST0 HB0 HBZ0 hS
      rw [hs]
      clear hs hm hB0
      go_wp2
      go_loopg [23] G (fun g i wr => ∃ k : Nat, k ≤ G ∧ g = G - k ∧ i = .int .i64 k ∧ Bd w wr w.heap.size s ob lb n G m a S A ⟨O, Lk la k, fun k => (A k).cl⟩ (fun _ => none) ∧ B0 ≤ wr.heap.size)
      case atStart => exact ⟨0, Nat.zero_le _, rfl, rfl, HB.out, HBZ.out⟩
      case round =>
        clear HB HBZ
        obtain ⟨k, hk, hg, rfl, hB, hz⟩ := hrel
        have HB := Hid.mk' hB
        clear hB
        by_cases hlt : k < G
        · obtain ⟨b, off, hx, hl, c0⟩ := (HL.out.below HB.out.be).le hlt
          subst hx
          obtain ⟨r1, r2⟩ := HrL.out k hlt
          by_cases h0 : 0 ≤ la k
          · obtain ⟨q, hq⟩ : ∃ q : Nat, la k = q := ⟨(la k).toNat, by omega⟩
            have c0' := cell_nat c0 hq
            have hqn : q < n := by omega
            have c1 := HB.out.rs.cell hqn
            have HQ : Hid ((la k).toNat = q ∧ 0 ≤ la k) := ⟨by omega, h0⟩
            clear c0 r1 r2 h0 hq
            go_wp2_with fail
            refine (setLast_any s lb G k _ (some ⟨a q, 0, none⟩) (fun g => ptr a (Lk la k g)) S _ rfl HB.out.pw.hs (by rw [← HSE.out]; rfl) HB.out.pw.hl hlt).mono ?_
            rintro e w5 ⟨rfl, h5⟩
            have HN : Hid (Bd w w5 w.heap.size s ob lb n G m a S A ⟨O, Lk la (k + 1), fun k => (A k).cl⟩ (fun _ => none) ∧ B0 ≤ w5.heap.size) := by
              refine ⟨?_, by rw [h5]; simpa using hz⟩
              have := HB.out.setL ST.out (g := k) hqn
              rw [← Lk_some la k HQ.out.2, HQ.out.1, h5]
              exact this
            clear HB h5 c0' c1 hz
            go_wp2
            go_roundg (G - (k + 1))
            case measure => omega
            case rel => exact ⟨k + 1, by omega, rfl, by go_num, HN.out.1, HN.out.2⟩
          · have h0' : la k < 0 := by omega
            go_wp2
            go_roundg (G - (k + 1))
            case measure => omega
            case rel => exact ⟨k + 1, by omega, rfl, by go_num, by rw [← Lk_none la k h0']; exact HB.out, hz⟩
        · have e : G = k := by omega
          subst e
          obtain ⟨w5, hw5⟩ : ∃ w5 : World, wr = w5 := ⟨_, rfl⟩
          subst hw5
          go_wp2
          go_loopg [24] nf (fun g i wr => ∃ (k : Nat) (v : Value), k ≤ nf ∧ g = nf - k ∧ i = .int .i64 k ∧ Bd w wr w.heap.size s ob lb n G m a { S with fresh := v } A ⟨O, Lk la G, fun k => (A k).cl⟩ (fun _ => none) ∧ B0 ≤ wr.heap.size ∧ wr.ownsRow B0 40 1 v k (frs a fr k) ∧ (k = 0 → v = .slice none 0 0))
          case atStart =>
            refine ⟨0, .slice none 0 0, Nat.zero_le _, rfl, rfl, ?_, hz, ⟨rfl, .inl ⟨rfl, rfl⟩⟩, fun _ => rfl⟩
            have : { S with fresh := .slice none 0 0 } = S := by rw [← HSE.out]; rfl
            rw [this]
            exact HB.out
          case round =>
            clear HB hz
            obtain ⟨k, v, hk, hg, rfl, hB, hz, hw, h0⟩ := hrel
            have HB := Hid.mk' hB
            have HW := Hid.mk' hw
            have H0 := Hid.mk' h0
            clear hB hw h0
            by_cases hlt : k < nf
            · obtain ⟨b, off, hx, hl, c0⟩ := (HF.out.below HB.out.be).le hlt
              subst hx
              obtain ⟨r1, r2⟩ := HrF.out k hlt
              obtain ⟨q, hq⟩ : ∃ q : Nat, fr k = q := ⟨(fr k).toNat, by omega⟩
              have c0' := cell_nat c0 hq
              have hqn : q < n := by omega
              have c1 := HB.out.rs.cell hqn
              have HQ : Hid (natT fr k = q) := by show (fr k).toNat = q; omega
              clear c0 r1 r2 hq
              go_wp2_with fail
              refine (addFresh_any s B0 k (a q) (frs a fr k) { S with fresh := v } _ HB.out.pw.hs ST.out.lo.bs hz HW.out (by omega)).mono ?_
              rintro e w6 ⟨rfl, v', hb6, ho6, f6⟩
              have HN := Hid.mk' (HB.out.turn ST.out f6 hb6)
              have HO6 : Hid (w6.ownsRow B0 40 1 v' (k + 1) (frs a fr (k + 1))) := by
                rw [frs_succ, HQ.out]; exact ho6
              have z6 : B0 ≤ w6.heap.size := Nat.le_trans hz f6.size
              clear HB HW c0' c1 hz hb6 ho6 f6
              go_wp2
              go_roundg (nf - (k + 1))
              case measure => omega
              case rel => exact ⟨k + 1, v', by omega, rfl, by go_num, HN.out, z6, HO6.out, fun q => by omega⟩
            · have e : nf = k := by omega
              subst e
              obtain ⟨gF, f1, f2, f3, f4, f5⟩ := FreshIs.of ST.out HW.out H0.out
              have sB := ST.out.lo.bs
              obtain ⟨B, hB⟩ : ∃ B, wr.heap.size = B := ⟨_, rfl⟩
              have hBB : B0 ≤ B := by omega
              have STB := Hid.mk' (ST.out.mono hBB)
              have fB : gF < B := by omega
              have F1 := Hid.mk' f1
              have zB : B ≤ wr.heap.size := by omega
              obtain ⟨S2, hS2⟩ : ∃ S2, { S with fresh := v } = S2 := ⟨_, rfl⟩
              have HS2 := Hid.mk' hS2
              have HB' : Hid (Bd w wr w.heap.size s ob lb n G m a S2 A ⟨O, Lk la G, fun k => (A k).cl⟩ (fun _ => none)) := by rw [← hS2]; exact HB
              have HSX : Hid (S2.ex = .slice none 0 0 ∧ S2.linger = linger ∧ S2.now = now ∧ S2.opn = .slice ao G co ∧ S2.last = .slice (some ⟨lb, 0, none⟩) G G ∧ S2.mp = .map (some m) ∧ S2.fresh = v) := by
                rw [← hS2, ← HSE.out]; exact ⟨rfl, rfl, rfl, rfl, rfl, rfl, rfl⟩
              clear hB hS2 f1 f3 HW H0 HB ST HSE hz
              obtain ⟨w6, hw6⟩ : ∃ w6 : World, wr = w6 := ⟨_, rfl⟩
              subst hw6
              go_wp2
              go_loopg [25] ne (fun g i wr => ∃ (k : Nat) (u : Value), k ≤ ne ∧ g = ne - k ∧ i = .int .i64 k ∧ Bd w wr w.heap.size s ob lb n G m a { S2 with ex := u } A ⟨O, Lk la G, fun k => (A k).cl⟩ (fun _ => none) ∧ B ≤ wr.heap.size ∧ Ex wr B u (adr a (qu ex k)) ∧ FreshIs wr s ob lb n a (natT fr) v nf gF)
              case atStart =>
                refine ⟨0, .slice none 0 0, Nat.zero_le _, rfl, rfl, ?_, zB, ⟨rfl, .inl ⟨rfl, rfl⟩⟩, F1.out⟩
                have : { S2 with ex := .slice none 0 0 } = S2 := by rw [← HSX.out.1]
                rw [this]
                exact HB'.out
              case round =>
                clear HB' zB F1
                obtain ⟨k, u, hk, hg, rfl, hB, hz, hw, hf⟩ := hrel
                have HB := Hid.mk' hB
                have HW := Hid.mk' hw
                have HFr := Hid.mk' hf
                clear hB hw hf
                by_cases hlt : k < ne
                · obtain ⟨b, off, hx, hl, c0, c1⟩ := HE.out.le hlt
                  subst hx
                  have zw := HB.out.be.size
                  have d0 := (HB.out.be.cell (p := ⟨b, off + k * 2, none⟩) hl).trans c0
                  have d1 := (HB.out.be.cell (p := ⟨b, off + k * 2 + 1, none⟩) hl).trans c1
                  obtain ⟨r1, r2⟩ : 0 ≤ (ex k).2 ∧ (ex k).2 < n := HrE.out k hlt
                  obtain ⟨q, hq⟩ : ∃ q : Nat, (ex k).2 = q := ⟨(ex k).2.toNat, by omega⟩
                  have d1' := cell_nat d1 hq
                  have hqn : q < n := by omega
                  have d2 := HB.out.rs.cell hqn
                  have HQ : Hid ((ex k).2.toNat = q) := by show (ex k).2.toNat = q; omega
                  have lb1 : b < wr.heap.size := by omega
                  have lb2 := HB.out.rs.lt
                  have nF1 : ¬ (b = s ∨ B ≤ b) := by
                    have := STB.out.gS
                    have := STB.out.gR
                    have := STB.out.rB
                    omega
                  have nF2 : ¬ (w.heap.size = s ∨ B ≤ w.heap.size) := by
                    have := STB.out.rs
                    have := STB.out.rB
                    omega
                  have hle : (adr a (qu ex k)).length ≤ 1000000 := by rw [adr_len, qu_len]; omega
                  have HL5 := Hid.mk' (addExp_any s B (a q) (ex k).1 (adr a (qu ex k)) { S2 with ex := u } wr.drew HB.out.pw.hs STB.out.lo.bs hz HW.out hle)
                  clear c0 c1 d1 r1 r2 hq hle
                  go_wp2
                  go_region_held3 (fun w' => w'.cell? ⟨b, off + k * 2, none⟩ = some (.int .i64 (ex k).1) ∧ w'.cell? ⟨b, off + k * 2 + 1, none⟩ = some (.int .i64 (q : Int)) ∧ w'.cell? ⟨w.heap.size, q, none⟩ = some (.pointer (some ⟨a q, 0, none⟩)))
                    (first | exact keep3f f6 lb1 nF1 lb2 nF2 ⟨d0, d1', d2⟩ | exact ⟨d0, d1', d2⟩)
                    (first | (go_at_call 50; refine HL5.out.mono ?_; rintro e w6 ⟨rfl, u', hb6, ho6, f6⟩))
                  have f6' : Fr (fun i => i = s ∨ B ≤ i) wr w6 := (Fr.refl _ wr).drew.trans f6 (fun _ _ q => q)
                  have HN := Hid.mk' (HB.out.turn STB.out f6' hb6)
                  have HO6 : Hid (Ex w6 B u' (adr a (qu ex (k + 1)))) := by
                    rw [qu_succ, adr_append]
                    show Ex w6 B u' (adr a (qu ex k) ++ [((ex k).1, a (ex k).2.toNat)])
                    rw [HQ.out]
                    exact ho6
                  have HFr6 := Hid.mk' (HFr.out.turn f6' fB)
                  have z6 : B ≤ w6.heap.size := Nat.le_trans hz f6'.size
                  clear HB HW HFr HL5 d0 d1' d2 hz hb6 ho6 f6 f6' lb1 lb2 nF1 nF2
                  go_wp2
                  go_roundg (ne - (k + 1))
                  case measure => omega
                  case rel => exact ⟨k + 1, u', by omega, rfl, by go_num, HN.out, z6, HO6.out, HFr6.out⟩
                · have e : ne = k := by omega
                  subst e
                  have XW := Hid.mk' (Win.ofEx HW.out)
                  obtain ⟨S3, hS3⟩ : ∃ S3, { S2 with ex := u } = S3 := ⟨_, rfl⟩
                  have HSY : Hid (S3.ex = u ∧ S3.linger = linger ∧ S3.now = now ∧ S3.opn = .slice ao G co ∧ S3.last = .slice (some ⟨lb, 0, none⟩) G G ∧ S3.mp = .map (some m) ∧ S3.fresh = v) := by
                    rw [← hS3]; exact ⟨rfl, HSX.out.2⟩
                  have HB' : Hid (Bd w wr w.heap.size s ob lb n G m a S3 A ⟨O, Lk la G, fun k => (A k).cl⟩ (fun _ => none)) := by rw [← hS3]; exact HB
                  clear HW HB hS3 HSX
                  obtain ⟨w7, hw7⟩ : ∃ w7 : World, wr = w7 := ⟨_, rfl⟩
                  subst hw7
                  go_wp2
                  go_loopg [26, 27] nk (fun g i _ wr => ∃ k : Nat, k ≤ nk ∧ g = nk - k ∧ i = .int .i64 k ∧ Bd w wr w.heap.size s ob lb n G m a S3 A ⟨O, Lk la G, fun k => (A k).cl⟩ (mpk ky va a k) ∧ B ≤ wr.heap.size ∧ Win wr B u (adr a (qu ex ne)) ∧ FreshIs wr s ob lb n a (natT fr) v nf gF)
                  case atStart => exact ⟨0, Nat.zero_le _, rfl, rfl, HB'.out, hz, XW.out, HFr.out⟩
                  case round =>
                    clear HB' hz XW HFr
                    obtain ⟨k, hk, hg, rfl, hB, hz, hw, hf⟩ := hrel
                    have HB := Hid.mk' hB
                    have HW := Hid.mk' hw
                    have HFr := Hid.mk' hf
                    clear hB hw hf
                    have hS := HB.out.pw.hs
                    have HMm := HSY.out.2.2.2.2.2.1
                    by_cases hlt : k < nk
                    · obtain ⟨b, off, hx, hl, c0⟩ := (HV.out.below HB.out.be).le hlt
                      obtain ⟨bk, offk, hxk, hlk, ck⟩ := (HK.out.below HB.out.be).le hlt
                      subst hx hxk
                      obtain ⟨r1, r2⟩ := HrV.out k hlt
                      have step : Hid (∀ w8, MapS w8 m (mpk ky va a (k + 1)) → Fr (· = m) wr w8 → Bd w w8 w.heap.size s ob lb n G m a S3 A ⟨O, Lk la G, fun k => (A k).cl⟩ (mpk ky va a (k + 1)) ∧ B ≤ w8.heap.size ∧ Win w8 B u (adr a (qu ex ne)) ∧ FreshIs w8 s ob lb n a (natT fr) v nf gF) := fun w8 hm8 f8 =>
                        ⟨HB.out.turnM STB.out f8 hm8, Nat.le_trans hz f8.size, HW.out.kept (fun i h1 h2 => f8.block i h2 (by have := STB.out.lo.bm; omega)), HFr.out.fr f8 f4⟩
                      by_cases h0 : 0 ≤ va k
                      · obtain ⟨q, hq⟩ : ∃ q : Nat, va k = q := ⟨(va k).toNat, by omega⟩
                        have c0' := cell_nat c0 hq
                        have hqn : q < n := by omega
                        have c1 := HB.out.rs.cell hqn
                        have HQ : Hid (ptr a (dec (va k)) = .pointer (some ⟨a q, 0, none⟩)) := by rw [hq, dec_nat]; rfl
                        clear c0 r1 r2 h0 hq HMm hS
                        go_wp2_with fail
                        refine (setRecS_any s m _ (some ⟨a q, 0, none⟩) (mpk ky va a k) S3 (ky k) _ rfl HB.out.pw.hs HSY.out.2.2.2.2.2.1 HB.out.mp).mono ?_
                        rintro e w8 ⟨rfl, hm8, f8⟩
                        have HN := Hid.mk' (step.out w8 (by rw [mpk, HQ.out]; exact hm8) f8)
                        clear hm8 f8 step HB HW HFr hz c0' c1 ck
                        go_wp2
                        go_roundg (nk - (k + 1))
                        case measure => omega
                        case rel => exact ⟨k + 1, by omega, rfl, by go_num, HN.out⟩
                      · have h0' : va k < 0 := by omega
                        have HQ : Hid (ptr a (dec (va k)) = .pointer none) := by rw [dec_neg h0']; rfl
                        clear r1 r2 HMm hS
                        go_wp2_with fail
                        refine (setRecS_any s m _ none (mpk ky va a k) S3 (ky k) _ rfl HB.out.pw.hs HSY.out.2.2.2.2.2.1 HB.out.mp).mono ?_
                        rintro e w8 ⟨rfl, hm8, f8⟩
                        have HN := Hid.mk' (step.out w8 (by rw [mpk, HQ.out]; exact hm8) f8)
                        clear hm8 f8 step HB HW HFr hz c0 ck
                        go_wp2
                        go_roundg (nk - (k + 1))
                        case measure => omega
                        case rel => exact ⟨k + 1, by omega, rfl, by go_num, HN.out⟩
                    · have e : nk = k := by omega
                      subst e
                      clear hS HMm
                      go_wp2
                      go_ret2
                      obtain ⟨y1, y2, y3, y4, y5, y6, y7⟩ := HSY.out
                      exact ⟨w.heap.size, s, lb, m, gF, B, a, S3, rfl, y2, y3, y4, ⟨⟨HB.out.pw, by rw [y1]; exact HW.out, HB.out.mp⟩, STB.out, by rw [y7]; exact HFr.out, y5, y6, HB.out.rs, HB.out.be, f2, fB, f4, f5, hz⟩⟩

end Go.Proofs.Qxb6619458a
