import Derived.Test.Qxb6619458aAPa1
import Derived.Test.Qxb6619458aAClone2
namespace Go.Proofs.Qxb6619458a
open Go.RowKit
attribute [local go_sem ↓] Go.wp_at_zero Go.wp_at_succ

theorem cln_keep {F : Nat → Prop} {w5 w6 w7 : World} {B4 G : Nat} {aB : Option Addr} {O : Nat → Int} (h : Cln w5 B4 aB G O) (hb : Below w5.heap.size w5 w6) (f : Fr F w6 w7) (hF : ∀ g, B4 ≤ g → g < w5.heap.size → 0 < G → ¬ F g) : IsI w7 aB G O := by
  by_cases h0 : 0 < G
  · rcases h with ⟨_, h1⟩ | ⟨g, ha, hg, hr⟩
    · omega
    · have hr6 := hr.of_block (hb.block g hr.lt)
      have hr7 := hr6.of_block (f.block g hr6.lt (hF g hg hr.lt h0))
      exact .inr ⟨g, 0, ha, hr7.lt, fun i hi => by rw [Nat.zero_add]; exact hr7.cell hi⟩
  · exact .inl (by omega)

theorem same_small {A A' : Nat → AR} {n : Nat} (h : Small A n) (hs : ∀ k, k < n → SameA (A k) (A' k)) : Small A' n := fun k hk => by
  obtain ⟨h1, h2, h3, _, _⟩ := hs k hk
  rw [h1, h2, h3]
  exact h k hk

set_option maxRecDepth 1000000 in
set_option maxHeartbeats 16000000 in
theorem partR {x10 x11 x12 x13 x14 x15 x16 x17 x18 x19 x20 x21 x22 x23 x24 x25 x26 x27 x28 x29 x30 x31 x32 x33 x34 x35 x36 x37 x38 x39 x40 x41 x42 x43 x44 x45 x46 x47 x48 x49 x50 x51 x52 x53 x54 x55 x56 x57 x58 x59 x60 x61 x62 x63 x64 x65 x66 x67 x68 x69 x70 x71 x72 x73 x74 x75 x76 x77 x78 x79 x80 x81 x82 x83 x84 x85 x86 x87 x88 x89 x90 x91 x92 x93 x94 x95 x96 x97 x98 x99 x100 x101 x102 x103 x104 x105 x106 x107 x108 x109 x110 x111 x112 x113 x114 x115 x116 x117 x118 x119 x120 x121 x122 x123 x124 x125 x126 x127 x128 x129 x130 x131 x132 x133 x134 x135 x136 x137 x138 x139 x140 x141 x142 x143 x144 x145 x146 x147 x148 x149 x150 x151 x152 x153 x154 x155 x156 x157 x158 x159 x160 x161 x162 x163 x164 x165 x166 x167 x168 x169 x170 x171 x172 x173 x174 x175 x176 x177 x178 x179 x180 x181 x182 x183 x184 x185 x186 x187 x188 x189 x190 x191 x192 x193 x194 x195 x196 x197 x198 x199 x200 x201 x202 x203 x204 x205 x206 x207 x208 x209 x210 x211 x212 x213 x214 x215 x216 x217 x218 x219 x220 x221 x222 x223 x224 x225 x226 x227 x228 x229 x230 x231 x232 x233 x234 x235 x236 x237 x238 x239 x240 x241 x242 x243 x244 x245 x246 x247 x248 x249 x250 x251 x252 x253 x254 x255 x256 x257 x258 x259 x260 x261 x262 x263 x264 x265 x266 x267 x268 x269 x270 x271 x272 x273 x274 x275 x276 x277 x278 x279 x280 x281 x282 x283 x284 x285 x286 x287 x288 x289 x290 x291 x292 x293 x294 x295 x296 x297 x298 x299 x300 x301 x302 x303 x304 x305 x306 x307 x308 x309 x310 x311 x312 x313 x314 x315 x316 x317 x318 x319 x320 x321 x322 x323 x324 x325 x326 x327 x328 x329 x330 x331 x332 x333 x334 x335 x336 x337 x338 x339 x340 x341 x342 x343 x344 x345 x346 x347 x348 x349 x350 x351 x352 x353 x354 x355 x356 x357 x358 x359 x360 x361 x362 x363 x364 x365 x366 x367 x368 x369 x370 x371 x372 x373 x374 x375 x376 x377 x378 x379 x380 x381 x382 x383 x384 x385 x386 x387 x388 x389 x390 x391 x392 x393 x394 x395 x396 x397 x398 x399 x400 x401 x402 x403 x404 x405 x406 x407 x408 x409 x410 x411 x412 x413 x414 x415 x416 x417 x418 x419 x420 x421 x422 x423 x424 x425 x426 x427 x428 x429 x430 x431 x432 x433 x434 x435 x436 : Value}
    (linger sNow now : Int) (aR aF aO aL aE aK aV : Option Addr) (n nf G ne nk cR cF cO cL cE cK cV : Nat) (A : Nat → AR) (T U : Nat → Nat → Int) (fr O la va : Nat → Int) (ex : Nat → Int × Int) (ky : Nat → ByteArray) (w0 w : World)
    (hA : IsA w aR n A) (hT : IsT w n A T) (hU : IsU w n A U) (hF : IsI w aF nf fr) (hO : IsI w aO G O) (hL : IsI w aL G la) (hE : IsS w aE ne ex) (hK : IsK w aK nk ky) (hV : IsI w aV nk va)
    (hSm : Small A n) (hN : Num n G nf ne nk fr la va ex) (hQT : InT fr A T G nf) (hOw : ∀ g, g < G → wrap64 (O g) = O g) (hb0 : Below w0.heap.size w0 w) :
    Code.wp Try.prog (rest3 4) (bodyPost Try.prog Try.f3 (fun e w' => e = .returned (.bool true) ∧ Below w0.heap.size w0 w')) ⟨#[.int .i64 linger, .int .i64 sNow, .slice aR n cR, .slice aF nf cF, .slice aO G cO, .slice aL G cL, .slice aE ne cE, .slice aK nk cK, .slice aV nk cV, .int .i64 now, x10, x11, x12, x13, x14, x15, x16, x17, x18, x19, x20, x21, x22, x23, x24, x25, x26, x27, x28, x29, x30, x31, x32, x33, x34, x35, x36, x37, x38, x39, x40, x41, x42, x43, x44, x45, x46, x47, x48, x49, x50, x51, x52, x53, x54, x55, x56, x57, x58, x59, x60, x61, x62, x63, x64, x65, x66, x67, x68, x69, x70, x71, x72, x73, x74, x75, x76, x77, x78, x79, x80, x81, x82, x83, x84, x85, x86, x87, x88, x89, x90, x91, x92, x93, x94, x95, x96, x97, x98, x99, x100, x101, x102, x103, x104, x105, x106, x107, x108, x109, x110, x111, x112, x113, x114, x115, x116, x117, x118, x119, x120, x121, x122, x123, x124, x125, x126, x127, x128, x129, x130, x131, x132, x133, x134, x135, x136, x137, x138, x139, x140, x141, x142, x143, x144, x145, x146, x147, x148, x149, x150, x151, x152, x153, x154, x155, x156, x157, x158, x159, x160, x161, x162, x163, x164, x165, x166, x167, x168, x169, x170, x171, x172, x173, x174, x175, x176, x177, x178, x179, x180, x181, x182, x183, x184, x185, x186, x187, x188, x189, x190, x191, x192, x193, x194, x195, x196, x197, x198, x199, x200, x201, x202, x203, x204, x205, x206, x207, x208, x209, x210, x211, x212, x213, x214, x215, x216, x217, x218, x219, x220, x221, x222, x223, x224, x225, x226, x227, x228, x229, x230, x231, x232, x233, x234, x235, x236, x237, x238, x239, x240, x241, x242, x243, x244, x245, x246, x247, x248, x249, x250, x251, x252, x253, x254, x255, x256, x257, x258, x259, x260, x261, x262, x263, x264, x265, x266, x267, x268, x269, x270, x271, x272, x273, x274, x275, x276, x277, x278, x279, x280, x281, x282, x283, x284, x285, x286, x287, x288, x289, x290, x291, x292, x293, x294, x295, x296, x297, x298, x299, x300, x301, x302, x303, x304, x305, x306, x307, x308, x309, x310, x311, x312, x313, x314, x315, x316, x317, x318, x319, x320, x321, x322, x323, x324, x325, x326, x327, x328, x329, x330, x331, x332, x333, x334, x335, x336, x337, x338, x339, x340, x341, x342, x343, x344, x345, x346, x347, x348, x349, x350, x351, x352, x353, x354, x355, x356, x357, x358, x359, x360, x361, x362, x363, x364, x365, x366, x367, x368, x369, x370, x371, x372, x373, x374, x375, x376, x377, x378, x379, x380, x381, x382, x383, x384, x385, x386, x387, x388, x389, x390, x391, x392, x393, x394, x395, x396, x397, x398, x399, x400, x401, x402, x403, x404, x405, x406, x407, x408, x409, x410, x411, x412, x413, x414, x415, x416, x417, x418, x419, x420, x421, x422, x423, x424, x425, x426, x427, x428, x429, x430, x431, x432, x433, x434, x435, x436], []⟩ w := by
  have HA := Hid.mk' hA
  have HT := Hid.mk' hT
  have HU := Hid.mk' hU
  have HF := Hid.mk' hF
  have HO := Hid.mk' hO
  have HL := Hid.mk' hL
  have HE := Hid.mk' hE
  have HK := Hid.mk' hK
  have HV := Hid.mk' hV
  have HSm := Hid.mk' hSm
  have HN := Hid.mk' hN
  have HQT := Hid.mk' hQT
  have HOw := Hid.mk' hOw
  have b1 := hN.bn
  have b2 := hN.bG
  have b3 := hN.bnf
  have b4 := hN.bne
  have b5 := hN.bnk
  clear hA hT hU hF hO hL hE hK hV hSm hN hQT hOw
  conv => arg 2; whnf
  go_wp2_with fail
  refine (cloneA_any aR n cR A T U w b1 HA.out HT.out HU.out HSm.out).mono ?_
  rintro e w3 ⟨aR', cR', A', rfl, hA', hT', hSa, hb3⟩
  have HA' := Hid.mk' hA'
  have HT' := Hid.mk' hT'
  have HSm' := Hid.mk' (same_small HSm.out hSa)
  have HRT : Hid (∀ i, i < nf → InR (T (natT fr i)) 0 G (A' (natT fr i)).tl) := fun i hi => by
    have h1 := HQT.out i hi
    have h2 : natT fr i < n := by have := HN.out.rF i hi; show (fr i).toNat < n; omega
    rw [(hSa _ h2).2.1]
    exact h1
  have z3 := hb3.size
  clear hA' hT' hSa HA HT HU HSm HQT
  go_wp2_with fail
  refine (cloneInts_any aO G cO O w3 (by omega) (HO.out.below hb3)).mono ?_
  rintro e w4 ⟨aO', cO', rfl, hcO, hb4⟩
  have HcO := Hid.mk' hcO
  have z4 := hb4.size
  clear hcO HO
  go_wp2_with fail
  refine (cloneInts_any aO' G cO' O w4 (by omega) HcO.out.isI).mono ?_
  rintro e w5 ⟨aB, cB, rfl, hcB, hb5⟩
  have HcB := Hid.mk' hcB
  have z5 := hb5.size
  obtain ⟨ob, q1, q2, q3, q4, q5, q6⟩ : ∃ ob, OW w5 ob G O ∧ ob ≤ w5.heap.size ∧ (0 < G → ob < w5.heap.size) ∧ (0 < G → aO' = some ⟨ob, 0, none⟩) ∧ w3.heap.size ≤ ob ∧ (0 < G → ob < w4.heap.size) := by
    rcases HcO.out with ⟨_, h0⟩ | ⟨g, ha, hg, hr⟩
    · exact ⟨w5.heap.size, .inl (by omega), Nat.le_refl _, fun q => by omega, fun q => by omega, by omega, fun q => by omega⟩
    · have hl := hr.lt
      exact ⟨g, .inr (hr.of_block (hb5.block g hl)), by omega, fun _ => by omega, fun _ => ha, hg, fun _ => hl⟩
  have Hq1 := Hid.mk' q1
  have Hq3 := Hid.mk' q3
  have Hq4 := Hid.mk' q4
  have Hq6 := Hid.mk' q6
  have hb35 : Below w3.heap.size w3 w5 := chain hb4 hb5
  have hbw5 : Below w.heap.size w w5 := chain hb3 hb35
  clear hcB q1 q3 q4 q6 HcO
  go_wp2_with fail
  refine (build_any linger sNow aR' aF aO' aL aE aK aV n cR' nf cF G cO' cL ne cE nk cK cV ob A' fr la va O ex ky w5 b1 b3 b2 b4 b5 (HA'.out.below hb35) (HF.out.below hbw5) Hq1.out q2 Hq3.out (HL.out.below hbw5) (HE.out.below hbw5) (HK.out.below hbw5) (HV.out.below hbw5) HN.out.rF HN.out.rL HN.out.rE HN.out.rV).mono ?_
  rintro e w6 ⟨rb, s, lb, m, gF, B, a, S, rfl, hS1, hS2, hS3, hBt⟩
  have HBt := Hid.mk' hBt
  have HS1 := Hid.mk' hS1
  have HS2 := Hid.mk' hS2
  have HS3 : Hid (0 < G → S.opn = .slice (some ⟨ob, 0, none⟩) G cO') := fun h => by rw [hS3, Hq4.out h]
  have hb36 : Below w3.heap.size w3 w6 := chain hb35 HBt.out.be
  have hbw6 : Below w.heap.size w w6 := chain hb3 hb36
  have z6 := HBt.out.be.size
  clear hBt hS1 hS2 hS3 Hq1 Hq4 hb35 hbw5
  by_cases hle : now ≤ sNow
  · have HAd := Hid.mk' (zzAdv_any s now w6 (adv_no s S now w6 HBt.out.aw.pw.hs (by rw [HS2.out]; exact hle)))
    go_wp2_with fail
    refine HAd.out.mono ?_
    rintro e w7 ⟨rfl, hw7⟩
    subst hw7
    clear HAd
    dsimp only
    go_step
    go_step
    go_step
    go_step
    exact partU aR' aF aB aL aE aK aV cR' cF cB cL cE cK cV rb s ob lb n G m B nf ne nk cO' now sNow linger a S A' fr la va O ex ky gF w0 w7
      ⟨HBt.out.aw, HBt.out.rs, HA'.out.below hb36, HF.out.below hbw6, (HcB.out.below HBt.out.be).isI, HL.out.below hbw6, HE.out.below hbw6, HK.out.below hbw6, HV.out.below hbw6⟩ HN.out HBt.out.fr HS2.out hle HS3.out HBt.out.la HBt.out.mp (chain hb0 hbw6)
  · have hgt : sNow < now := by omega
    have HAd := Hid.mk' (zzAdv_any s now w6 (adv_any s ob lb n G cO' gF nf m B ne now a (natT fr) S A' T ⟨O, Lk la G, fun k => (A' k).cl⟩ ex (mpk ky va a nk) w6 w3 HBt.out.aw HBt.out.st.ap HBt.out.st.lo (by rw [HS2.out]; exact hgt) HS3.out HBt.out.la HBt.out.mp HBt.out.fr b3 b4
      (fun i hi => by have := HN.out.rF i hi; show (fr i).toNat < n; omega) HT'.out HSm'.out HRT.out HN.out.rE hb36 q5 (by have := HBt.out.st.gL; omega) (fun l hl => by have := HBt.out.st.gA l hl; omega) HBt.out.fB HBt.out.fm HBt.out.Bw))
    go_wp2_with fail
    refine HAd.out.mono ?_
    rintro e w7 ⟨rfl, x, y, v, j, hPre, hAW, hF7⟩
    obtain ⟨S7, hS7⟩ : ∃ S7 : Sum, { S with fresh := .slice x 0 y, now := now, ex := v } = S7 := ⟨_, rfl⟩
    rw [hS7] at hAW
    rw [HS1.out] at hAW hPre
    have e1 : S7.now = now := by rw [← hS7]
    have e2 : S7.fresh = .slice x 0 y := by rw [← hS7]
    have e3 : S7.opn = S.opn := by rw [← hS7]
    have e4 : S7.last = S.last := by rw [← hS7]
    have e5 : S7.mp = S.mp := by rw [← hS7]
    have hlow : ∀ i, i < w5.heap.size → (0 < G → i ≠ ob) → ¬ (Wr G ob lb n a i ∨ i = s ∨ i = gF ∨ i = m ∨ B ≤ i) := by
      rintro i hi ho ((⟨q0, q⟩ | q | ⟨k, hk, q⟩) | q | q | q | q)
      · exact ho q0 q
      · have := HBt.out.st.gL; omega
      · have := HBt.out.st.gA k hk; omega
      · have := HBt.out.st.gS; omega
      · have := HBt.out.gFh; omega
      · have := HBt.out.st.gM; omega
      · have := HBt.out.st.rB; have := HBt.out.st.gR; omega
    have hb37 : Below w3.heap.size w3 w7 := hF7.toBelow hb36 (fun i hi => hlow i (by omega) (fun _ => by omega))
    have hbw7 : Below w.heap.size w w7 := chain hb3 hb37
    have hB7 : IsI w7 aB G O := cln_keep HcB.out HBt.out.be hF7 (fun g h1 h2 h3 => hlow g h2 (fun _ => by have := Hq6.out h3; omega))
    have hrs7 : w7.rowIs rb 40 n (fun i => .pointer (some ⟨a i, 0, none⟩)) := HBt.out.rs.of_block (hF7.block rb HBt.out.rs.lt (by
      rintro ((⟨q0, q⟩ | q | ⟨k, hk, q⟩) | q | q | q | q)
      · have := Hq3.out q0; have := HBt.out.st.gR; omega
      · exact HBt.out.st.rl q
      · exact HBt.out.st.ra k hk q
      · exact HBt.out.st.rs q
      · exact HBt.out.frb q.symm
      · exact HBt.out.st.rm q
      · have := HBt.out.st.rB; omega))
    dsimp only
    go_step
    go_step
    go_step
    go_step
    exact partV aR' aF aB aL aE aK aV cR' cF cB cL cE cK cV rb s ob lb n G m B nf ne nk cO' now sNow linger a S7 A' fr la va O ex ky x y j T w3 w0 w7
      ⟨hAW, hrs7, HA'.out.below hb37, HF.out.below hbw7, hB7, HL.out.below hbw7, HE.out.below hbw7, HK.out.below hbw7, HV.out.below hbw7⟩ HN.out HT'.out hb37 HSm'.out HRT.out HOw.out e1 e2 hPre hgt (fun h => by rw [e3]; exact HS3.out h) (by rw [e4]; exact HBt.out.la) (by rw [e5]; exact HBt.out.mp) (chain hb0 hbw7)

end Go.Proofs.Qxb6619458a
