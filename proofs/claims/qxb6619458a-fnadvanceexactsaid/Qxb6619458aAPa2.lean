import Derived.Test.Qxb6619458aAPa3
namespace Go.Proofs.Qxb6619458a
open Go.RowKit
attribute [local go_sem ↓] Go.wp_at_zero Go.wp_at_succ

theorem Cln.ob {w : World} {B : Nat} {a : Option Addr} {n : Nat} {f : Nat → Int} (h : Cln w B a n f) (hB : B ≤ w.heap.size) :
    ∃ ob, OW w ob n f ∧ ob ≤ w.heap.size ∧ (0 < n → ob < w.heap.size) ∧ (0 < n → a = some ⟨ob, 0, none⟩) ∧ B ≤ ob := by
  rcases h with ⟨_, h0⟩ | ⟨g, ha, hg, hr⟩
  · exact ⟨w.heap.size, .inl (by omega), Nat.le_refl _, fun q => by omega, fun q => by omega, hB⟩
  · exact ⟨g, .inr hr, Nat.le_of_lt hr.lt, fun _ => hr.lt, fun _ => ha, hg⟩

set_option maxRecDepth 1000000 in
set_option maxHeartbeats 16000000 in
theorem partA2 {x4 x8 x10 x11 x12 x13 x14 x15 x16 x17 x18 x19 x20 x25 x26 x27 x28 x29 x30 x31 x32 x33 x34 x35 x36 x37 x38 x39 x40 x41 x42 x43 x44 x45 x46 x47 x48 x49 x50 x51 x52 x53 x54 x55 x56 x57 x58 x59 x60 x61 x62 x63 x64 x65 x66 x67 x68 x69 x70 x71 x72 x73 x74 x75 x76 x77 x78 x79 x80 x81 x82 x83 x84 x85 x86 x87 x88 x89 x90 x91 x92 x93 x94 x95 x96 x97 x98 x99 x100 x101 x102 x103 x104 x105 x106 x107 x108 x109 x110 x111 x112 x113 x114 x115 x116 x117 x118 x119 x120 x121 x122 x123 x124 x125 x126 x127 x128 x129 x130 x131 x132 x133 x134 x135 x136 x137 x138 x139 x140 x141 x142 x143 x144 x145 x146 x147 x148 x149 x150 x151 x152 x153 x154 x155 x156 x157 x158 x159 x160 x161 x162 x163 x164 x165 x166 x167 x168 x169 x170 x171 x172 x173 x174 x175 x176 x177 x178 x179 x180 x181 x182 x183 x184 x185 x186 x187 x188 x189 x190 x191 x192 x193 x194 x195 x196 x197 x198 x199 x200 x201 x202 x203 x204 x205 x206 x207 x208 x209 x210 x211 x212 x213 x214 x215 x216 x217 x218 x219 x220 x221 x222 x223 x224 x225 x226 x227 x228 x229 x230 x231 x232 x233 x234 x235 x236 x237 x238 x239 x240 x241 x242 x243 x244 x245 x246 x247 x248 x249 x250 x251 x252 x253 x254 x255 x256 x257 x258 x259 x260 x261 x262 x263 x264 x265 x266 x267 x268 x269 x270 x271 x272 x273 x274 x275 x276 x277 x278 x279 x280 x281 x282 x283 x284 x285 x286 x287 x288 x289 x290 x291 x292 x293 x294 x295 x296 x297 x298 x299 x300 x301 x302 x303 x304 x305 x306 x307 x308 x309 x310 x311 x312 x313 x314 x315 x316 x317 x318 x319 x320 x321 x322 x323 x324 x325 x326 x327 x328 x329 x330 x331 x332 x333 x334 x335 x336 x337 x338 x339 x340 x341 x342 x343 x344 x345 x346 x347 x348 x349 x350 x351 x352 x353 x354 x355 x356 x357 x358 x359 x360 x361 x362 x363 x364 x365 x366 x367 x368 x369 x370 x371 x372 x373 x374 x375 x376 x377 x378 x379 x380 x381 x382 x383 x384 x385 x386 x387 x388 x389 x390 x391 x392 x393 x394 x395 x396 x397 x398 x399 x400 x401 x402 x403 x404 x405 x406 x407 x408 x409 x410 x411 x412 x413 x414 x415 x416 x417 x418 x419 x420 x421 x422 x423 x424 x425 x426 x427 x428 x429 x430 x431 x432 x433 x434 x435 x436 : Value}
    (aR aF aB aL aE aK x17A : Option Addr) (cR cF cB cL cE cK rb s ob lb n G m B nf ne nk mv co y17 : Nat) (now sNow linger : Int) (j : Nat) (a : Nat → Nat) (S : Sum) (A : Nat → AR) (T : Nat → Nat → Int) (fr la va O : Nat → Int) (ex : Nat → Int × Int) (ky : Nat → ByteArray) (w0 wB w : World)
    (hE : Env w aR aF aB aL aE aK rb s ob lb n G m B nf ne nk mv a S A (endJ A T (natT fr) ⟨O, Lk la G, fun k => (A k).cl⟩ nf) ((qu ex ne).drop j ++ rq now linger (fun k => (A k).h) ex j) (dl now linger (fun k => (A k).h) (fun k => (A k).id) ex (mpk ky va a nk) j) fr la va O ex ky) (hN : Num n G nf ne nk fr la va ex)
    (hT : IsT wB n A T) (hB : Below wB.heap.size wB w) (hSm : Small A n) (hRT : ∀ i, i < nf → InR (T (natT fr i)) 0 G (A (natT fr i)).tl) (hOw : ∀ g, g < G → wrap64 (O g) = O g)
    (hnow : S.now = now) (hfr : S.fresh = .slice x17A 0 y17) (hS1 : 0 < G → S.opn = .slice (some ⟨ob, 0, none⟩) G co) (hS2 : S.last = .slice (some ⟨lb, 0, none⟩) G G) (hS4 : S.mp = .map (some m)) (hj : Pre now linger ex ne j) (hb0 : Below w0.heap.size w0 w) :
    Code.wp Try.prog (rest3 12) (bodyPost Try.prog Try.f3 (fun e w' => e = .returned (.bool true) ∧ Below w0.heap.size w0 w')) ⟨#[.int .i64 linger, .int .i64 sNow, .slice aR n cR, .slice aF nf cF, x4, .slice aL G cL, .slice aE ne cE, .slice aK nk cK, x8, .int .i64 now, x10, x11, x12, x13, x14, x15, x16, x17, x18, x19, x20, .slice aB G cB, .slice (some ⟨rb, 0, none⟩) n n, .pointer (some ⟨s, 0, none⟩), .map (some mv), x25, x26, x27, x28, x29, x30, x31, x32, x33, x34, x35, x36, x37, x38, x39, x40, x41, x42, x43, x44, x45, x46, x47, x48, x49, x50, x51, x52, x53, x54, x55, x56, x57, x58, x59, x60, x61, x62, x63, x64, x65, x66, x67, x68, x69, x70, x71, x72, x73, x74, x75, x76, x77, x78, x79, x80, x81, x82, x83, x84, x85, x86, x87, x88, x89, x90, x91, x92, x93, x94, x95, x96, x97, x98, x99, x100, x101, x102, x103, x104, x105, x106, x107, x108, x109, x110, x111, x112, x113, x114, x115, x116, x117, x118, x119, x120, x121, x122, x123, x124, x125, x126, x127, x128, x129, x130, x131, x132, x133, x134, x135, x136, x137, x138, x139, x140, x141, x142, x143, x144, x145, x146, x147, x148, x149, x150, x151, x152, x153, x154, x155, x156, x157, x158, x159, x160, x161, x162, x163, x164, x165, x166, x167, x168, x169, x170, x171, x172, x173, x174, x175, x176, x177, x178, x179, x180, x181, x182, x183, x184, x185, x186, x187, x188, x189, x190, x191, x192, x193, x194, x195, x196, x197, x198, x199, x200, x201, x202, x203, x204, x205, x206, x207, x208, x209, x210, x211, x212, x213, x214, x215, x216, x217, x218, x219, x220, x221, x222, x223, x224, x225, x226, x227, x228, x229, x230, x231, x232, x233, x234, x235, x236, x237, x238, x239, x240, x241, x242, x243, x244, x245, x246, x247, x248, x249, x250, x251, x252, x253, x254, x255, x256, x257, x258, x259, x260, x261, x262, x263, x264, x265, x266, x267, x268, x269, x270, x271, x272, x273, x274, x275, x276, x277, x278, x279, x280, x281, x282, x283, x284, x285, x286, x287, x288, x289, x290, x291, x292, x293, x294, x295, x296, x297, x298, x299, x300, x301, x302, x303, x304, x305, x306, x307, x308, x309, x310, x311, x312, x313, x314, x315, x316, x317, x318, x319, x320, x321, x322, x323, x324, x325, x326, x327, x328, x329, x330, x331, x332, x333, x334, x335, x336, x337, x338, x339, x340, x341, x342, x343, x344, x345, x346, x347, x348, x349, x350, x351, x352, x353, x354, x355, x356, x357, x358, x359, x360, x361, x362, x363, x364, x365, x366, x367, x368, x369, x370, x371, x372, x373, x374, x375, x376, x377, x378, x379, x380, x381, x382, x383, x384, x385, x386, x387, x388, x389, x390, x391, x392, x393, x394, x395, x396, x397, x398, x399, x400, x401, x402, x403, x404, x405, x406, x407, x408, x409, x410, x411, x412, x413, x414, x415, x416, x417, x418, x419, x420, x421, x422, x423, x424, x425, x426, x427, x428, x429, x430, x431, x432, x433, x434, x435, x436], []⟩ w := by
  have HE := Hid.mk' hE
  have HN := Hid.mk' hN
  have HT := Hid.mk' hT
  have HSm := Hid.mk' hSm
  have HRT := Hid.mk' hRT
  have HOw := Hid.mk' hOw
  have H1 := Hid.mk' hS1
  have H2 := Hid.mk' hS2
  have H4 := Hid.mk' hS4
  have HJ := Hid.mk' hj
  have HFr := Hid.mk' hfr
  have b1 := hN.bn
  have b2 := hN.bG
  have b3 := hN.bnf
  clear hE hN hT hSm hRT hOw hS1 hS2 hS4 hj hfr
  conv => arg 2; whnf
  go_wp2_with fail
  refine (now_any s S w HE.out.aw.pw.hs).mono ?_
  rintro e w1 ⟨rfl, hw1⟩
  subst hw1
  rw [hnow]
  go_wp2_with fail
  refine (freshLen_any s S x17A 0 y17 w1 HE.out.aw.pw.hs HFr.out).mono ?_
  rintro e w1 ⟨rfl, hw1⟩
  subst hw1
  clear HFr
  go_wp2_with fail
  refine (cloneInts_any aB G cB O w1 (by omega) HE.out.iB).mono ?_
  rintro e w2 ⟨aO2, cO2, rfl, hcl, hb2⟩
  obtain ⟨ob2, q1, q2, q3, q4, q5⟩ := hcl.ob hb2.size
  have HO2 := Hid.mk' q1
  have Hq3 := Hid.mk' q3
  have Hq4 := Hid.mk' q4
  have HE2 := Hid.mk' (HE.out.below hb2)
  clear hcl q1 q3 q4
  go_wp2_with fail
  refine (build_any linger sNow aR none aO2 aL none none none n cR 0 0 G cO2 cL 0 0 0 0 0 ob2 A (fun _ => 0) la (fun _ => 0) O (fun _ => (0, 0)) (fun _ => ByteArray.empty) w2 b1 (Nat.zero_le _) b2 (Nat.zero_le _) (Nat.zero_le _) HE2.out.iR (.inl (Nat.le_refl _)) HO2.out q2 Hq3.out HE2.out.iL (.inl (Nat.le_refl _)) (.inl (Nat.le_refl _)) (.inl (Nat.le_refl _)) (InR.zero _ _ _) HN.out.rL (InR.zero _ _ _) (InR.zero _ _ _)).mono ?_
  rintro e w3 ⟨rb2, s2, lb2, m2, gF2, B2, a2, S2, rfl, _, _, hop, hBt⟩
  have HBt := Hid.mk' hBt
  have Hop := Hid.mk' hop
  have hW : Hid (∀ i, i < w2.heap.size → i < w1.heap.size → ¬ Wr G ob2 lb2 n a2 i) := by
    rintro i hi hi' (⟨_, q⟩ | q | ⟨k, hk, q⟩)
    · omega
    · have := HBt.out.st.gL; omega
    · have := HBt.out.st.gA k hk; omega
  have hrbW : Hid (¬ Wr G ob2 lb2 n a2 rb2) := by
    rintro (⟨q0, q⟩ | q | ⟨k, hk, q⟩)
    · have := Hq3.out q0
      have := HBt.out.st.gR
      omega
    · exact HBt.out.st.rl q
    · exact HBt.out.st.ra k hk q
  have hb13 : Below w1.heap.size w1 w3 := chain hb2 HBt.out.be
  have z2 := hb2.size
  clear hBt hop HE2 HO2
  have HBe : Hid (∀ wr, Fr (Wr G ob2 lb2 n a2) w3 wr → Below w1.heap.size w1 wr) := fun wr f => f.toBelow hb13 (fun i hi => hW.out i (by omega) hi)
  go_wp2
  go_loopg [29] nf (fun g i wr => ∃ k : Nat, k ≤ nf ∧ g = nf - k ∧ i = .int .i64 k ∧ PW wr s2 ob2 lb2 n G a2 S2 A (endJ A T (natT fr) ⟨O, Lk la G, fun k => (A k).cl⟩ k) ∧ Fr (Wr G ob2 lb2 n a2) w3 wr)
  case atStart => exact ⟨0, Nat.zero_le _, rfl, rfl, HBt.out.aw.pw, Fr.refl _ _⟩
  case round =>
    obtain ⟨k, hk, hg, rfl, hP, hF⟩ := hrel
    have HP := Hid.mk' hP
    have HF := Hid.mk' hF
    clear hP hF
    have hbr := HBe.out wr HF.out
    by_cases hlt : k < nf
    · obtain ⟨b, off, hx, hl, c0⟩ := (HE.out.below hbr).iF.le hlt
      subst hx
      obtain ⟨r1, r2⟩ := HN.out.rF k hlt
      obtain ⟨q, hq⟩ : ∃ q : Nat, fr k = q := ⟨(fr k).toNat, by omega⟩
      have c0' := cell_nat c0 hq
      have hqn : q < n := by omega
      have HQ : Hid (natT fr k = q) := by show (fr k).toNat = q; omega
      have hrs := HBt.out.rs.of_block (HF.out.block _ HBt.out.rs.lt hrbW.out)
      have c1 := hrs.cell hqn
      have hRq := HRT.out k hlt
      rw [HQ.out] at hRq
      have HPl := Hid.mk' (zzPlace_any s2 (a2 q) wr (place_some s2 ob2 lb2 n G cO2 q a2 S2 A (T q) _ wr wB HP.out HBt.out.st.ap (fun h => by rw [Hop.out, Hq4.out h]) HBt.out.la hqn (HT.out q hqn) (HSm.out q hqn).2.1 hRq (fun l hl => (HSm.out l hl).2.2)
        (chain hB hbr) (by have := hB.size; omega) (by have := hB.size; have := HBt.out.st.gL; omega) (fun l hl => by have := hB.size; have := HBt.out.st.gA l hl; omega)))
      clear c0 r1 r2 hq hrs hRq
      go_wp2_with fail
      refine HPl.out.mono ?_
      rintro e w4 ⟨rfl, hP4, hF4⟩
      have HP4 : Hid (PW w4 s2 ob2 lb2 n G a2 S2 A (endJ A T (natT fr) ⟨O, Lk la G, fun k => (A k).cl⟩ (k + 1))) := by
        rw [endJ, HQ.out]; exact hP4
      have HF5 := Hid.mk' (HF.out.trans hF4 (fun _ _ q => q))
      clear HPl hP4 hF4 c0' c1 HP HF hbr
      go_wp2
      go_roundg (nf - (k + 1))
      case measure => omega
      case rel => exact ⟨k + 1, by omega, rfl, by go_num, HP4.out, HF5.out⟩
    · have e : nf = k := by omega
      subst e
      go_upto_if 179 with fail
      go_step
      go_step
      go_step
      go_step
      exact partA3 aR aF aB aL aE aK cR cF cB cL cE cK rb s ob lb n G m B nf ne nk mv rb2 co now linger j a a2 S A T (fun k => (A k).cl) fr la va O ex ky w0 wr (HE.out.below hbr) HN.out
        (HBt.out.rs.of_block (HF.out.block _ HBt.out.rs.lt hrbW.out)) HP.out.hr (fun k hk => (HT.out k hk).below (chain hB hbr)) HSm.out HRT.out HOw.out H1.out H2.out H4.out HJ.out (chain hb0 hbr)

end Go.Proofs.Qxb6619458a
