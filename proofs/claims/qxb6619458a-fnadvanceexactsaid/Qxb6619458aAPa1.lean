import Derived.Test.Qxb6619458aAPa2
namespace Go.Proofs.Qxb6619458a
open Go.RowKit
attribute [local go_sem ↓] Go.wp_at_zero Go.wp_at_succ

/-- Env, ahead of the map. -/
structure Env0 (w : World) (aR aF aB aL aE aK aV : Option Addr) (rb s ob lb n G m B nf ne nk : Nat) (a : Nat → Nat) (S : Sum) (A : Nat → AR) (P : PS) (E : List (Int × Nat)) (M : ByteArray → Option Value) (fr la va O : Nat → Int) (ex : Nat → Int × Int) (ky : Nat → ByteArray) : Prop where
  aw : AW w s ob lb n G m B a S A P E M
  rs : w.rowIs rb 40 n (fun i => .pointer (some ⟨a i, 0, none⟩))
  iR : IsA w aR n A
  iF : IsI w aF nf fr
  iB : IsI w aB G O
  iL : IsI w aL G la
  iE : IsS w aE ne ex
  iK : IsK w aK nk ky
  iV : IsI w aV nk va

section
variable {aR aF aB aL aE aK aV : Option Addr} {rb s ob lb n G m B nf ne nk mv : Nat} {a : Nat → Nat} {S : Sum} {A : Nat → AR} {P : PS} {E : List (Int × Nat)} {M : ByteArray → Option Value} {fr la va O : Nat → Int} {ex : Nat → Int × Int} {ky : Nat → ByteArray}
theorem Env0.env {w w' : World} (h : Env0 w aR aF aB aL aE aK aV rb s ob lb n G m B nf ne nk a S A P E M fr la va O ex ky) (hb : Below w.heap.size w w') (hm : MapS w' mv (lvk ky va nk)) : Env w' aR aF aB aL aE aK rb s ob lb n G m B nf ne nk mv a S A P E M fr la va O ex ky :=
  ⟨h.aw.below hb, h.rs.of_block (hb.block _ h.rs.lt), h.iR.below hb, h.iF.below hb, h.iB.below hb, h.iL.below hb, h.iE.below hb, h.iK.below hb, hm⟩
end

set_option maxRecDepth 1000000 in
set_option maxHeartbeats 16000000 in
theorem partU {x4 x10 x11 x12 x13 x14 x15 x16 x17 x18 x19 x20 x24 x25 x26 x27 x28 x29 x30 x31 x32 x33 x34 x35 x36 x37 x38 x39 x40 x41 x42 x43 x44 x45 x46 x47 x48 x49 x50 x51 x52 x53 x54 x55 x56 x57 x58 x59 x60 x61 x62 x63 x64 x65 x66 x67 x68 x69 x70 x71 x72 x73 x74 x75 x76 x77 x78 x79 x80 x81 x82 x83 x84 x85 x86 x87 x88 x89 x90 x91 x92 x93 x94 x95 x96 x97 x98 x99 x100 x101 x102 x103 x104 x105 x106 x107 x108 x109 x110 x111 x112 x113 x114 x115 x116 x117 x118 x119 x120 x121 x122 x123 x124 x125 x126 x127 x128 x129 x130 x131 x132 x133 x134 x135 x136 x137 x138 x139 x140 x141 x142 x143 x144 x145 x146 x147 x148 x149 x150 x151 x152 x153 x154 x155 x156 x157 x158 x159 x160 x161 x162 x163 x164 x165 x166 x167 x168 x169 x170 x171 x172 x173 x174 x175 x176 x177 x178 x179 x180 x181 x182 x183 x184 x185 x186 x187 x188 x189 x190 x191 x192 x193 x194 x195 x196 x197 x198 x199 x200 x201 x202 x203 x204 x205 x206 x207 x208 x209 x210 x211 x212 x213 x214 x215 x216 x217 x218 x219 x220 x221 x222 x223 x224 x225 x226 x227 x228 x229 x230 x231 x232 x233 x234 x235 x236 x237 x238 x239 x240 x241 x242 x243 x244 x245 x246 x247 x248 x249 x250 x251 x252 x253 x254 x255 x256 x257 x258 x259 x260 x261 x262 x263 x264 x265 x266 x267 x268 x269 x270 x271 x272 x273 x274 x275 x276 x277 x278 x279 x280 x281 x282 x283 x284 x285 x286 x287 x288 x289 x290 x291 x292 x293 x294 x295 x296 x297 x298 x299 x300 x301 x302 x303 x304 x305 x306 x307 x308 x309 x310 x311 x312 x313 x314 x315 x316 x317 x318 x319 x320 x321 x322 x323 x324 x325 x326 x327 x328 x329 x330 x331 x332 x333 x334 x335 x336 x337 x338 x339 x340 x341 x342 x343 x344 x345 x346 x347 x348 x349 x350 x351 x352 x353 x354 x355 x356 x357 x358 x359 x360 x361 x362 x363 x364 x365 x366 x367 x368 x369 x370 x371 x372 x373 x374 x375 x376 x377 x378 x379 x380 x381 x382 x383 x384 x385 x386 x387 x388 x389 x390 x391 x392 x393 x394 x395 x396 x397 x398 x399 x400 x401 x402 x403 x404 x405 x406 x407 x408 x409 x410 x411 x412 x413 x414 x415 x416 x417 x418 x419 x420 x421 x422 x423 x424 x425 x426 x427 x428 x429 x430 x431 x432 x433 x434 x435 x436 : Value}
    (aR aF aB aL aE aK aV : Option Addr) (cR cF cB cL cE cK cV rb s ob lb n G m B nf ne nk co : Nat) (now sNow linger : Int) (a : Nat → Nat) (S : Sum) (A : Nat → AR) (fr la va O : Nat → Int) (ex : Nat → Int × Int) (ky : Nat → ByteArray) (gF : Nat) (w0 w : World)
    (hE : Env0 w aR aF aB aL aE aK aV rb s ob lb n G m B nf ne nk a S A ⟨O, Lk la G, fun k => (A k).cl⟩ (qu ex ne) (mpk ky va a nk) fr la va O ex ky) (hN : Num n G nf ne nk fr la va ex)
    (hFr : FreshIs w s ob lb n a (natT fr) S.fresh nf gF) (hnow : S.now = sNow) (hle : now ≤ sNow)
    (hS1 : 0 < G → S.opn = .slice (some ⟨ob, 0, none⟩) G co) (hS2 : S.last = .slice (some ⟨lb, 0, none⟩) G G) (hS4 : S.mp = .map (some m)) (hb0 : Below w0.heap.size w0 w) :
    Code.wp Try.prog (rest3 9) (bodyPost Try.prog Try.f3 (fun e w' => e = .returned (.bool true) ∧ Below w0.heap.size w0 w')) ⟨#[.int .i64 linger, .int .i64 sNow, .slice aR n cR, .slice aF nf cF, x4, .slice aL G cL, .slice aE ne cE, .slice aK nk cK, .slice aV nk cV, .int .i64 now, x10, x11, x12, x13, x14, x15, x16, x17, x18, x19, x20, .slice aB G cB, .slice (some ⟨rb, 0, none⟩) n n, .pointer (some ⟨s, 0, none⟩), x24, x25, x26, x27, x28, x29, x30, x31, x32, x33, x34, x35, x36, x37, x38, x39, x40, x41, x42, x43, x44, x45, x46, x47, x48, x49, x50, x51, x52, x53, x54, x55, x56, x57, x58, x59, x60, x61, x62, x63, x64, x65, x66, x67, x68, x69, x70, x71, x72, x73, x74, x75, x76, x77, x78, x79, x80, x81, x82, x83, x84, x85, x86, x87, x88, x89, x90, x91, x92, x93, x94, x95, x96, x97, x98, x99, x100, x101, x102, x103, x104, x105, x106, x107, x108, x109, x110, x111, x112, x113, x114, x115, x116, x117, x118, x119, x120, x121, x122, x123, x124, x125, x126, x127, x128, x129, x130, x131, x132, x133, x134, x135, x136, x137, x138, x139, x140, x141, x142, x143, x144, x145, x146, x147, x148, x149, x150, x151, x152, x153, x154, x155, x156, x157, x158, x159, x160, x161, x162, x163, x164, x165, x166, x167, x168, x169, x170, x171, x172, x173, x174, x175, x176, x177, x178, x179, x180, x181, x182, x183, x184, x185, x186, x187, x188, x189, x190, x191, x192, x193, x194, x195, x196, x197, x198, x199, x200, x201, x202, x203, x204, x205, x206, x207, x208, x209, x210, x211, x212, x213, x214, x215, x216, x217, x218, x219, x220, x221, x222, x223, x224, x225, x226, x227, x228, x229, x230, x231, x232, x233, x234, x235, x236, x237, x238, x239, x240, x241, x242, x243, x244, x245, x246, x247, x248, x249, x250, x251, x252, x253, x254, x255, x256, x257, x258, x259, x260, x261, x262, x263, x264, x265, x266, x267, x268, x269, x270, x271, x272, x273, x274, x275, x276, x277, x278, x279, x280, x281, x282, x283, x284, x285, x286, x287, x288, x289, x290, x291, x292, x293, x294, x295, x296, x297, x298, x299, x300, x301, x302, x303, x304, x305, x306, x307, x308, x309, x310, x311, x312, x313, x314, x315, x316, x317, x318, x319, x320, x321, x322, x323, x324, x325, x326, x327, x328, x329, x330, x331, x332, x333, x334, x335, x336, x337, x338, x339, x340, x341, x342, x343, x344, x345, x346, x347, x348, x349, x350, x351, x352, x353, x354, x355, x356, x357, x358, x359, x360, x361, x362, x363, x364, x365, x366, x367, x368, x369, x370, x371, x372, x373, x374, x375, x376, x377, x378, x379, x380, x381, x382, x383, x384, x385, x386, x387, x388, x389, x390, x391, x392, x393, x394, x395, x396, x397, x398, x399, x400, x401, x402, x403, x404, x405, x406, x407, x408, x409, x410, x411, x412, x413, x414, x415, x416, x417, x418, x419, x420, x421, x422, x423, x424, x425, x426, x427, x428, x429, x430, x431, x432, x433, x434, x435, x436], []⟩ w := by
  have HE := Hid.mk' hE
  have HN := Hid.mk' hN
  have H1 := Hid.mk' hS1
  have H2 := Hid.mk' hS2
  have H4 := Hid.mk' hS4
  have b5 := hN.bnk
  have HFr := Hid.mk' hFr
  have Hnow := Hid.mk' hnow
  clear hFr hnow
  clear hE hN hS1 hS2 hS4
  have hmm := @run_makeMap Try.prog
  have HM0 : Hid (MapS (w.alloc (.map #[] 0)) w.heap.size (fun _ => none) ∧ Below w.heap.size w (w.alloc (.map #[] 0))) := ⟨MapS.ofNil (heap_alloc_new w (.map #[] 0)), (Below.refl _ _).alloc (Nat.le_refl _) _⟩
  conv => arg 2; whnf
  go_wp2
  clear hmm
  revert HM0
  generalize w.alloc (.map #[] 0) = w1
  intro HM0
  go_loopg [25] nk (fun g i wr => ∃ k : Nat, k ≤ nk ∧ g = nk - k ∧ i = .int .i64 k ∧ MapS wr w.heap.size (lvk ky va k) ∧ Below w.heap.size w wr)
  case atStart => exact ⟨0, Nat.zero_le _, rfl, rfl, HM0.out.1, HM0.out.2⟩
  case round =>
    clear HM0
    obtain ⟨k, hk, hg, rfl, hM, hb⟩ := hrel
    have HM := Hid.mk' hM
    clear hM
    by_cases hlt : k < nk
    · obtain ⟨bK, oK, hxK, hlK, c0⟩ := HE.out.iK.le hlt
      obtain ⟨bV, oV, hxV, hlV, c1⟩ := HE.out.iV.le hlt
      subst hxK hxV
      have d0 := (hb.cell (p := ⟨bK, oK + k, none⟩) hlK).trans c0
      have d1 := (hb.cell (p := ⟨bV, oV + k, none⟩) hlV).trans c1
      have zr := hb.size
      have l0 : bK < wr.drew.heap.size := Nat.lt_of_lt_of_le hlK zr
      have l1 : bV < wr.drew.heap.size := Nat.lt_of_lt_of_le hlV zr
      have n0 : ¬ bK = w.heap.size := by omega
      have n1 : ¬ bV = w.heap.size := by omega
      have hMd : MapS wr.drew w.heap.size (lvk ky va k) := HM.out
      obtain ⟨w9, hp, h1, h2⟩ := hMd.put Try.underlying35 (ky k) (.int .i64 (va k))
      have HM9 : Hid (MapS w9 w.heap.size (lvk ky va (k + 1))) := h1
      have hb9 : Below w.heap.size w w9 := h2.toBelow hb.drew (fun i hi q => by omega)
      clear hMd h1 c0 c1 HM
      go_wp2
      go_region_held3 (fun w' => w'.cell? ⟨bK, oK + k, none⟩ = some (.string (ky k)) ∧ w'.cell? ⟨bV, oV + k, none⟩ = some (.int .i64 (va k)))
        (first | exact keep2f h2 l0 n0 l1 n1 ⟨d0, d1⟩ | exact ⟨d0, d1⟩)
        (fail)
      clear d0 d1 l0 l1 n0 n1 hp h2 hb
      go_wp2
      go_roundg (nk - (k + 1))
      case measure => omega
      case rel => exact ⟨k + 1, by omega, rfl, by go_num, HM9.out, hb9⟩
    · have e : nk = k := by omega
      subst e
      go_wp2_with fail
      refine (unch_any sNow aR aF aB aL aE aK cR cF cB cL cE cK rb s ob lb n G m B nf ne nk w.heap.size gF co a S A fr la va O ex ky wr (HE.out.env hb HM.out) (HFr.out.below hb) HN.out Hnow.out H1.out H2.out H4.out).mono ?_
      rintro e w9 ⟨rfl, hb9⟩
      have hbf := chain (chain hb0 hb) hb9
      clear HM hb9
      go_wp2
      go_ret
      exact ⟨rfl, hbf⟩

set_option maxRecDepth 1000000 in
set_option maxHeartbeats 16000000 in
theorem partV {x4 x10 x11 x12 x13 x14 x15 x16 x17 x18 x19 x20 x24 x25 x26 x27 x28 x29 x30 x31 x32 x33 x34 x35 x36 x37 x38 x39 x40 x41 x42 x43 x44 x45 x46 x47 x48 x49 x50 x51 x52 x53 x54 x55 x56 x57 x58 x59 x60 x61 x62 x63 x64 x65 x66 x67 x68 x69 x70 x71 x72 x73 x74 x75 x76 x77 x78 x79 x80 x81 x82 x83 x84 x85 x86 x87 x88 x89 x90 x91 x92 x93 x94 x95 x96 x97 x98 x99 x100 x101 x102 x103 x104 x105 x106 x107 x108 x109 x110 x111 x112 x113 x114 x115 x116 x117 x118 x119 x120 x121 x122 x123 x124 x125 x126 x127 x128 x129 x130 x131 x132 x133 x134 x135 x136 x137 x138 x139 x140 x141 x142 x143 x144 x145 x146 x147 x148 x149 x150 x151 x152 x153 x154 x155 x156 x157 x158 x159 x160 x161 x162 x163 x164 x165 x166 x167 x168 x169 x170 x171 x172 x173 x174 x175 x176 x177 x178 x179 x180 x181 x182 x183 x184 x185 x186 x187 x188 x189 x190 x191 x192 x193 x194 x195 x196 x197 x198 x199 x200 x201 x202 x203 x204 x205 x206 x207 x208 x209 x210 x211 x212 x213 x214 x215 x216 x217 x218 x219 x220 x221 x222 x223 x224 x225 x226 x227 x228 x229 x230 x231 x232 x233 x234 x235 x236 x237 x238 x239 x240 x241 x242 x243 x244 x245 x246 x247 x248 x249 x250 x251 x252 x253 x254 x255 x256 x257 x258 x259 x260 x261 x262 x263 x264 x265 x266 x267 x268 x269 x270 x271 x272 x273 x274 x275 x276 x277 x278 x279 x280 x281 x282 x283 x284 x285 x286 x287 x288 x289 x290 x291 x292 x293 x294 x295 x296 x297 x298 x299 x300 x301 x302 x303 x304 x305 x306 x307 x308 x309 x310 x311 x312 x313 x314 x315 x316 x317 x318 x319 x320 x321 x322 x323 x324 x325 x326 x327 x328 x329 x330 x331 x332 x333 x334 x335 x336 x337 x338 x339 x340 x341 x342 x343 x344 x345 x346 x347 x348 x349 x350 x351 x352 x353 x354 x355 x356 x357 x358 x359 x360 x361 x362 x363 x364 x365 x366 x367 x368 x369 x370 x371 x372 x373 x374 x375 x376 x377 x378 x379 x380 x381 x382 x383 x384 x385 x386 x387 x388 x389 x390 x391 x392 x393 x394 x395 x396 x397 x398 x399 x400 x401 x402 x403 x404 x405 x406 x407 x408 x409 x410 x411 x412 x413 x414 x415 x416 x417 x418 x419 x420 x421 x422 x423 x424 x425 x426 x427 x428 x429 x430 x431 x432 x433 x434 x435 x436 : Value}
    (aR aF aB aL aE aK aV : Option Addr) (cR cF cB cL cE cK cV rb s ob lb n G m B nf ne nk co : Nat) (now sNow linger : Int) (a : Nat → Nat) (S : Sum) (A : Nat → AR) (fr la va O : Nat → Int) (ex : Nat → Int × Int) (ky : Nat → ByteArray) (x17A : Option Addr) (y17 j : Nat) (T : Nat → Nat → Int) (wB : World) (w0 w : World)
    (hE : Env0 w aR aF aB aL aE aK aV rb s ob lb n G m B nf ne nk a S A (endJ A T (natT fr) ⟨O, Lk la G, fun k => (A k).cl⟩ nf) ((qu ex ne).drop j ++ rq now linger (fun k => (A k).h) ex j) (dl now linger (fun k => (A k).h) (fun k => (A k).id) ex (mpk ky va a nk) j) fr la va O ex ky) (hN : Num n G nf ne nk fr la va ex)
    (hT : IsT wB n A T) (hB : Below wB.heap.size wB w) (hSm : Small A n) (hRT : ∀ i, i < nf → InR (T (natT fr i)) 0 G (A (natT fr i)).tl) (hOw : ∀ g, g < G → wrap64 (O g) = O g)
    (hnow : S.now = now) (hfr : S.fresh = .slice x17A 0 y17) (hj : Pre now linger ex ne j) (hgt : sNow < now)
    (hS1 : 0 < G → S.opn = .slice (some ⟨ob, 0, none⟩) G co) (hS2 : S.last = .slice (some ⟨lb, 0, none⟩) G G) (hS4 : S.mp = .map (some m)) (hb0 : Below w0.heap.size w0 w) :
    Code.wp Try.prog (rest3 9) (bodyPost Try.prog Try.f3 (fun e w' => e = .returned (.bool true) ∧ Below w0.heap.size w0 w')) ⟨#[.int .i64 linger, .int .i64 sNow, .slice aR n cR, .slice aF nf cF, x4, .slice aL G cL, .slice aE ne cE, .slice aK nk cK, .slice aV nk cV, .int .i64 now, x10, x11, x12, x13, x14, x15, x16, x17, x18, x19, x20, .slice aB G cB, .slice (some ⟨rb, 0, none⟩) n n, .pointer (some ⟨s, 0, none⟩), x24, x25, x26, x27, x28, x29, x30, x31, x32, x33, x34, x35, x36, x37, x38, x39, x40, x41, x42, x43, x44, x45, x46, x47, x48, x49, x50, x51, x52, x53, x54, x55, x56, x57, x58, x59, x60, x61, x62, x63, x64, x65, x66, x67, x68, x69, x70, x71, x72, x73, x74, x75, x76, x77, x78, x79, x80, x81, x82, x83, x84, x85, x86, x87, x88, x89, x90, x91, x92, x93, x94, x95, x96, x97, x98, x99, x100, x101, x102, x103, x104, x105, x106, x107, x108, x109, x110, x111, x112, x113, x114, x115, x116, x117, x118, x119, x120, x121, x122, x123, x124, x125, x126, x127, x128, x129, x130, x131, x132, x133, x134, x135, x136, x137, x138, x139, x140, x141, x142, x143, x144, x145, x146, x147, x148, x149, x150, x151, x152, x153, x154, x155, x156, x157, x158, x159, x160, x161, x162, x163, x164, x165, x166, x167, x168, x169, x170, x171, x172, x173, x174, x175, x176, x177, x178, x179, x180, x181, x182, x183, x184, x185, x186, x187, x188, x189, x190, x191, x192, x193, x194, x195, x196, x197, x198, x199, x200, x201, x202, x203, x204, x205, x206, x207, x208, x209, x210, x211, x212, x213, x214, x215, x216, x217, x218, x219, x220, x221, x222, x223, x224, x225, x226, x227, x228, x229, x230, x231, x232, x233, x234, x235, x236, x237, x238, x239, x240, x241, x242, x243, x244, x245, x246, x247, x248, x249, x250, x251, x252, x253, x254, x255, x256, x257, x258, x259, x260, x261, x262, x263, x264, x265, x266, x267, x268, x269, x270, x271, x272, x273, x274, x275, x276, x277, x278, x279, x280, x281, x282, x283, x284, x285, x286, x287, x288, x289, x290, x291, x292, x293, x294, x295, x296, x297, x298, x299, x300, x301, x302, x303, x304, x305, x306, x307, x308, x309, x310, x311, x312, x313, x314, x315, x316, x317, x318, x319, x320, x321, x322, x323, x324, x325, x326, x327, x328, x329, x330, x331, x332, x333, x334, x335, x336, x337, x338, x339, x340, x341, x342, x343, x344, x345, x346, x347, x348, x349, x350, x351, x352, x353, x354, x355, x356, x357, x358, x359, x360, x361, x362, x363, x364, x365, x366, x367, x368, x369, x370, x371, x372, x373, x374, x375, x376, x377, x378, x379, x380, x381, x382, x383, x384, x385, x386, x387, x388, x389, x390, x391, x392, x393, x394, x395, x396, x397, x398, x399, x400, x401, x402, x403, x404, x405, x406, x407, x408, x409, x410, x411, x412, x413, x414, x415, x416, x417, x418, x419, x420, x421, x422, x423, x424, x425, x426, x427, x428, x429, x430, x431, x432, x433, x434, x435, x436], []⟩ w := by
  have HE := Hid.mk' hE
  have HN := Hid.mk' hN
  have H1 := Hid.mk' hS1
  have H2 := Hid.mk' hS2
  have H4 := Hid.mk' hS4
  have b5 := hN.bnk
  have HT := Hid.mk' hT
  have HSm := Hid.mk' hSm
  have HRT := Hid.mk' hRT
  have HOw := Hid.mk' hOw
  have HJ := Hid.mk' hj
  have Hnow := Hid.mk' hnow
  have Hfr := Hid.mk' hfr
  clear hT hSm hRT hOw hj hnow hfr
  clear hE hN hS1 hS2 hS4
  have hmm := @run_makeMap Try.prog
  have HM0 : Hid (MapS (w.alloc (.map #[] 0)) w.heap.size (fun _ => none) ∧ Below w.heap.size w (w.alloc (.map #[] 0))) := ⟨MapS.ofNil (heap_alloc_new w (.map #[] 0)), (Below.refl _ _).alloc (Nat.le_refl _) _⟩
  conv => arg 2; whnf
  go_wp2
  clear hmm
  revert HM0
  generalize w.alloc (.map #[] 0) = w1
  intro HM0
  go_loopg [25] nk (fun g i wr => ∃ k : Nat, k ≤ nk ∧ g = nk - k ∧ i = .int .i64 k ∧ MapS wr w.heap.size (lvk ky va k) ∧ Below w.heap.size w wr)
  case atStart => exact ⟨0, Nat.zero_le _, rfl, rfl, HM0.out.1, HM0.out.2⟩
  case round =>
    clear HM0
    obtain ⟨k, hk, hg, rfl, hM, hb⟩ := hrel
    have HM := Hid.mk' hM
    clear hM
    by_cases hlt : k < nk
    · obtain ⟨bK, oK, hxK, hlK, c0⟩ := HE.out.iK.le hlt
      obtain ⟨bV, oV, hxV, hlV, c1⟩ := HE.out.iV.le hlt
      subst hxK hxV
      have d0 := (hb.cell (p := ⟨bK, oK + k, none⟩) hlK).trans c0
      have d1 := (hb.cell (p := ⟨bV, oV + k, none⟩) hlV).trans c1
      have zr := hb.size
      have l0 : bK < wr.drew.heap.size := Nat.lt_of_lt_of_le hlK zr
      have l1 : bV < wr.drew.heap.size := Nat.lt_of_lt_of_le hlV zr
      have n0 : ¬ bK = w.heap.size := by omega
      have n1 : ¬ bV = w.heap.size := by omega
      have hMd : MapS wr.drew w.heap.size (lvk ky va k) := HM.out
      obtain ⟨w9, hp, h1, h2⟩ := hMd.put Try.underlying35 (ky k) (.int .i64 (va k))
      have HM9 : Hid (MapS w9 w.heap.size (lvk ky va (k + 1))) := h1
      have hb9 : Below w.heap.size w w9 := h2.toBelow hb.drew (fun i hi q => by omega)
      clear hMd h1 c0 c1 HM
      go_wp2
      go_region_held3 (fun w' => w'.cell? ⟨bK, oK + k, none⟩ = some (.string (ky k)) ∧ w'.cell? ⟨bV, oV + k, none⟩ = some (.int .i64 (va k)))
        (first | exact keep2f h2 l0 n0 l1 n1 ⟨d0, d1⟩ | exact ⟨d0, d1⟩)
        (fail)
      clear d0 d1 l0 l1 n0 n1 hp h2 hb
      go_wp2
      go_roundg (nk - (k + 1))
      case measure => omega
      case rel => exact ⟨k + 1, by omega, rfl, by go_num, HM9.out, hb9⟩
    · have e : nk = k := by omega
      subst e
      go_upto_if 144 with fail
      go_step
      go_step
      go_step
      go_step
      exact partA2 aR aF aB aL aE aK x17A cR cF cB cL cE cK rb s ob lb n G m B nf ne nk w.heap.size co y17 now sNow linger j a S A T fr la va O ex ky w0 wB wr (HE.out.env hb HM.out) HN.out HT.out (chain hB hb) HSm.out HRT.out HOw.out Hnow.out Hfr.out H1.out H2.out H4.out HJ.out (chain hb0 hb)

end Go.Proofs.Qxb6619458a
