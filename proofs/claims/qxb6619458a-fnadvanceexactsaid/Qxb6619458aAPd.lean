import Derived.Test.Qxb6619458aAPl
namespace Go.Proofs.Qxb6619458a
open Go.RowKit
attribute [local go_sem ↓] Go.wp_at_zero Go.wp_at_succ

set_option maxRecDepth 1000000 in
set_option maxHeartbeats 16000000 in
theorem partD {x0 x1 x2 x3 x4 x5 x6 x8 x9 x10 x11 x12 x13 x14 x15 x16 x17 x18 x19 x20 x21 x25 x26 x27 x28 x29 x30 x31 x32 x33 x34 x35 x36 x37 x40 x42 x43 x44 x45 x46 x47 x48 x49 x50 x51 x52 x53 x54 x55 x56 x57 x58 x59 x60 x61 x62 x63 x64 x65 x66 x67 x68 x69 x70 x71 x72 x73 x74 x75 x76 x77 x78 x79 x80 x81 x82 x83 x84 x85 x86 x87 x88 x89 x90 x91 x92 x93 x94 x95 x96 x97 x98 x99 x100 x101 x102 x103 x104 x105 x106 x107 x108 x109 x110 x111 x112 x113 x114 x115 x116 x117 x118 x119 x120 x121 x122 x123 x124 x125 x126 x127 x128 x129 x130 x131 x132 x133 x134 x135 x136 x137 x138 x139 x140 x141 x142 x143 x144 x145 x146 x147 x148 x149 x150 x151 x152 x153 x154 x155 x156 x157 x158 x159 x160 x161 x162 x163 x164 x165 x166 x167 x168 x169 x170 x171 x172 x173 x174 x175 x176 x177 x178 x179 x180 x181 x182 x183 x184 x185 x186 x187 x188 x189 x190 x191 x192 x193 x194 x195 x196 x197 x198 x199 x200 x201 x202 x203 x204 x205 x206 x207 x208 x209 x210 x211 x212 x213 x214 x215 x216 x217 x218 x219 x220 x221 x222 x223 x224 x225 x226 x227 x228 x229 x230 x231 x232 x233 x234 x235 x236 x237 x238 x239 x240 x241 x242 x243 x244 x245 x246 x247 x248 x249 x250 x251 x252 x253 x254 x255 x256 x257 x258 x259 x260 x261 x262 x263 x264 x265 x266 x267 x268 x269 x270 x271 x272 x273 x274 x275 x276 x277 x278 x279 x280 x281 x282 x283 x284 x285 x286 x287 x288 x289 x290 x291 x292 x293 x294 x295 x296 x297 x298 x299 x300 x301 x302 x303 x304 x305 x306 x307 x308 x309 x310 x311 x312 x313 x314 x315 x316 x317 x318 x319 x320 x321 x322 x323 x324 x325 x326 x327 x328 x329 x330 x331 x332 x333 x334 x335 x336 x337 x338 x339 x340 x341 x342 x343 x344 x345 x346 x347 x348 x349 x350 x351 x352 x353 x354 x355 x356 x357 x358 x359 x360 x361 x362 x363 x364 x365 x366 x367 x368 x369 x370 x371 x372 x373 x374 x375 x376 x377 x378 x379 x380 x381 x382 x383 x384 x385 x386 x387 x388 x389 x390 x391 x392 x393 x394 x395 x396 x397 x398 x399 x400 x401 x402 x403 x404 x405 x406 x407 x408 x409 x410 x411 x412 x413 x414 x415 x416 x417 x418 x419 x420 x421 x422 x423 x424 x425 x426 x427 x428 x429 x430 x431 x432 x433 x434 x435 x436 : Value}
    (aR aF aB aL aE aK : Option Addr) (cK rb s ob lb n G m B nf ne nk mv md Bq : Nat) (now linger : Int) (j : Nat) (vF vR : Value) (a : Nat → Nat) (S : Sum) (A : Nat → AR) (P : PS) (EL : List (Int × Nat)) (fr la va O : Nat → Int) (ex : Nat → Int × Int) (ky : Nat → ByteArray) (w0 w : World)
    (hE : Env w aR aF aB aL aE aK rb s ob lb n G m B nf ne nk mv a S A P EL (dl now linger (fun k => (A k).h) (fun k => (A k).id) ex (mpk ky va a nk) j) fr la va O ex ky) (hN : Num n G nf ne nk fr la va ex)
    (hS4 : S.mp = .map (some m)) (hEL : EL.length ≤ 200000) (hEr : ∀ x ∈ EL, x.2 < n)
    (hF : w.ownsRow Bq 2 1 vF EL.length (fL EL)) (hR : w.ownsRow Bq 3 1 vR EL.length (rL EL)) (hM : MapS w md (dele now linger (fun k => (A k).h) (fun k => (A k).id) ex j)) (hb0 : Below w0.heap.size w0 w) :
    Code.wp Try.prog (rest3 28) (bodyPost Try.prog Try.f3 (fun e w' => e = .returned (.bool true) ∧ Below w0.heap.size w0 w')) ⟨#[x0, x1, x2, x3, x4, x5, x6, .slice aK nk cK, x8, x9, x10, x11, x12, x13, x14, x15, x16, x17, x18, x19, x20, x21, .slice (some ⟨rb, 0, none⟩) n n, .pointer (some ⟨s, 0, none⟩), .map (some mv), x25, x26, x27, x28, x29, x30, x31, x32, x33, x34, x35, x36, x37, vF, vR, x40, .map (some md), x42, x43, x44, x45, x46, x47, x48, x49, x50, x51, x52, x53, x54, x55, x56, x57, x58, x59, x60, x61, x62, x63, x64, x65, x66, x67, x68, x69, x70, x71, x72, x73, x74, x75, x76, x77, x78, x79, x80, x81, x82, x83, x84, x85, x86, x87, x88, x89, x90, x91, x92, x93, x94, x95, x96, x97, x98, x99, x100, x101, x102, x103, x104, x105, x106, x107, x108, x109, x110, x111, x112, x113, x114, x115, x116, x117, x118, x119, x120, x121, x122, x123, x124, x125, x126, x127, x128, x129, x130, x131, x132, x133, x134, x135, x136, x137, x138, x139, x140, x141, x142, x143, x144, x145, x146, x147, x148, x149, x150, x151, x152, x153, x154, x155, x156, x157, x158, x159, x160, x161, x162, x163, x164, x165, x166, x167, x168, x169, x170, x171, x172, x173, x174, x175, x176, x177, x178, x179, x180, x181, x182, x183, x184, x185, x186, x187, x188, x189, x190, x191, x192, x193, x194, x195, x196, x197, x198, x199, x200, x201, x202, x203, x204, x205, x206, x207, x208, x209, x210, x211, x212, x213, x214, x215, x216, x217, x218, x219, x220, x221, x222, x223, x224, x225, x226, x227, x228, x229, x230, x231, x232, x233, x234, x235, x236, x237, x238, x239, x240, x241, x242, x243, x244, x245, x246, x247, x248, x249, x250, x251, x252, x253, x254, x255, x256, x257, x258, x259, x260, x261, x262, x263, x264, x265, x266, x267, x268, x269, x270, x271, x272, x273, x274, x275, x276, x277, x278, x279, x280, x281, x282, x283, x284, x285, x286, x287, x288, x289, x290, x291, x292, x293, x294, x295, x296, x297, x298, x299, x300, x301, x302, x303, x304, x305, x306, x307, x308, x309, x310, x311, x312, x313, x314, x315, x316, x317, x318, x319, x320, x321, x322, x323, x324, x325, x326, x327, x328, x329, x330, x331, x332, x333, x334, x335, x336, x337, x338, x339, x340, x341, x342, x343, x344, x345, x346, x347, x348, x349, x350, x351, x352, x353, x354, x355, x356, x357, x358, x359, x360, x361, x362, x363, x364, x365, x366, x367, x368, x369, x370, x371, x372, x373, x374, x375, x376, x377, x378, x379, x380, x381, x382, x383, x384, x385, x386, x387, x388, x389, x390, x391, x392, x393, x394, x395, x396, x397, x398, x399, x400, x401, x402, x403, x404, x405, x406, x407, x408, x409, x410, x411, x412, x413, x414, x415, x416, x417, x418, x419, x420, x421, x422, x423, x424, x425, x426, x427, x428, x429, x430, x431, x432, x433, x434, x435, x436], []⟩ w := by
  have HE := Hid.mk' hE
  have HN := Hid.mk' hN
  have H4 := Hid.mk' hS4
  have HEr := Hid.mk' hEr
  have HF := Hid.mk' hF
  have HR := Hid.mk' hR
  have HM := Hid.mk' hM
  have b5 := hN.bnk
  have b1 := hN.bn
  have hq40 := neq40
  obtain ⟨oF, cF, hvF⟩ := own_form hF
  obtain ⟨oR, cR, hvR⟩ := own_form hR
  subst hvF hvR
  obtain ⟨X21, Y21, hx21⟩ := hE.aw.wi.form
  rw [adr_len] at hx21
  have HX := Hid.mk' hx21
  clear hE hN hS4 hEr hF hR hM hx21
  conv => arg 2; whnf
  go_wp2_with fail
  refine (exLen_any s S X21 EL.length Y21 w HE.out.aw.pw.hs HX.out).mono ?_
  rintro e w1 ⟨rfl, hw1⟩
  subst hw1
  clear HX
  go_wp2
  go_loopg [44, 45, 46] EL.length (fun g i _ _ wr => ∃ k : Nat, k ≤ EL.length ∧ g = EL.length - k ∧ i = .int .i64 k ∧ Below w1.heap.size w1 wr)
  case atStart => exact ⟨0, Nat.zero_le _, rfl, rfl, Below.refl _ _⟩
  case round =>
    obtain ⟨k, hk, hg, rfl, hb⟩ := hrel
    by_cases hlt : k < EL.length
    · obtain ⟨t, q, htq⟩ : ∃ t q, EL[k]? = some (t, q) := ⟨_, _, List.getElem?_eq_getElem hlt⟩
      have hqn : q < n := HEr.out (t, q) (List.mem_of_getElem? htq)
      have c2 := (HE.out.below hb).rs.cell hqn
      obtain ⟨gF, cF', eF, lF, c0⟩ := own_at (x := .int .i64 t) (i := k) HF.out (by rw [fL, List.getElem?_map, htq]; rfl)
      obtain ⟨gR, cR', eR, lR, c1⟩ := own_at (x := .int .i64 (q : Int)) (i := k) HR.out (by rw [rL, List.getElem?_map, htq]; rfl)
      simp only [Value.slice.injEq, true_and] at eF eR
      obtain ⟨eF1, eF2⟩ := eF
      obtain ⟨eR1, eR2⟩ := eR
      subst eF1 eF2 eR1 eR2
      have d0 := (hb.cell (p := ⟨gF, k, none⟩) lF).trans c0
      have d1 := (hb.cell (p := ⟨gR, k, none⟩) lR).trans c1
      have HA := Hid.mk' (exAtW_any s B S (adr a EL) k t (a q) wr (HE.out.below hb).aw.pw.hs (HE.out.below hb).aw.wi (by rw [adr, List.getElem?_map, htq]; rfl))
      have zr := hb.size
      clear c0 c1 htq
      go_wp2_with fail
      refine HA.out.mono ?_
      rintro e w6 ⟨rfl, nq, hw6⟩
      have hbw : Below wr.heap.size wr w6 := by rw [hw6]; exact below_drewN (Below.refl _ _) nq
      have f0 := (hbw.cell (p := ⟨gF, k, none⟩) (by show gF < _; omega)).trans d0
      have f1 := (hbw.cell (p := ⟨gR, k, none⟩) (by show gR < _; omega)).trans d1
      have f2 := (hbw.cell (p := ⟨rb, q, none⟩) (HE.out.below hb).rs.lt).trans c2
      have hb' := chain hb hbw
      clear hw6 hbw HA d0 d1 c2 hb HF HR
      go_wp2
      go_roundg (EL.length - (k + 1))
      case measure => omega
      case rel => exact ⟨k + 1, by omega, rfl, by go_num, hb'⟩
    · have e : EL.length = k := by omega
      subst e
      obtain ⟨w7, hw7⟩ : ∃ w7, wr = w7 := ⟨_, rfl⟩
      subst hw7
      clear hg HF HR HEr
      go_wp2
      go_loopg [47, 48, 49] nk (fun g i _ _ wr => ∃ k : Nat, k ≤ nk ∧ g = nk - k ∧ i = .int .i64 k ∧ Below w1.heap.size w1 wr)
      case atStart => exact ⟨0, Nat.zero_le _, rfl, rfl, hb⟩
      case round =>
        clear hb
        obtain ⟨k, hk, hg, rfl, hb⟩ := hrel
        by_cases hlt : k < nk
        · obtain ⟨b, off, hx, hl, c0⟩ := (HE.out.below hb).iK.le hlt
          subst hx
          obtain ⟨i, hi, e1, e2⟩ := key_val ky va a nk k hlt
          obtain ⟨r1, r2⟩ := HN.out.rV i hi
          have HA0 := recOfS_any s m _ S (ky k) wr (HE.out.below hb).aw.pw.hs H4.out (HE.out.below hb).aw.mp
          have hld := ((HM.out.below hb).look Try.underlying50 (z := .bool false) (e := 4) (by kernel_rfl) (ky k)).1
          rcases dl_dele now linger (fun k => (A k).h) (fun k => (A k).id) ex (mpk ky va a nk) (ky k) j with ⟨y1, y2⟩ | ⟨y1, y2⟩
          · rw [y2, e2] at HA0
            rw [y1] at hld
            have HA := Hid.mk' HA0
            have hlk := ((HE.out.below hb).lv.look Try.underlying35 (z := .int .i64 0) (e := 3) (by kernel_rfl) (ky k)).1
            rw [e1] at hlk
            have HC := Hid.mk' (lastIs_any rb n n a (va i) wr (HE.out.below hb).rs r2)
            clear HA0 e1 e2 r1 r2 y1 y2
            revert HA HC
            generalize ptr a (dec (va i)) = pv
            intro HA HC
            go_wp2_with fail
            refine HA.out.mono ?_
            rintro e w8 ⟨rfl, hw8⟩
            subst hw8
            go_wp2_with fail
            refine HC.out.mono ?_
            rintro e w8 ⟨rfl, hw8⟩
            subst hw8
            clear HA HC hlk hld
            go_wp2
            go_roundg (nk - (k + 1))
            case measure => omega
            case rel => exact ⟨k + 1, by omega, rfl, by go_num, hb⟩
          · rw [y2] at HA0
            rw [y1] at hld
            have HA := Hid.mk' HA0
            clear HA0 e1 e2 r1 r2 y1 y2
            go_wp2_with fail
            refine HA.out.mono ?_
            rintro e w8 ⟨rfl, hw8⟩
            subst hw8
            clear HA
            go_wp2
            go_roundg (nk - (k + 1))
            case measure => omega
            case rel => exact ⟨k + 1, by omega, rfl, by go_num, hb⟩
        · have hbf := chain hb0 hb
          go_wp2
          go_ret
          exact ⟨rfl, hbf⟩

end Go.Proofs.Qxb6619458a
