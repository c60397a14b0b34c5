import Derived.Test.Qxb6619458aAPc
namespace Go.Proofs.Qxb6619458a
open Go.RowKit
attribute [local go_sem ↓] Go.wp_at_zero Go.wp_at_succ

/-- What is read of the second run. -/
structure Run2 (w : World) (rb2 gc n G : Nat) (aI : Option Addr) (a2 : Nat → Nat) (A : Nat → AR) (Q : PS) (c d : Nat → Int) : Prop where
  cn : w.rowIs gc 3 G (fun g => .int .i64 (c g))
  ix : IsI w aI G d
  rt : w.rowIs rb2 40 n (fun i => .pointer (some ⟨a2 i, 0, none⟩))
  hr : ∀ k, k < n → Blk w (a2 k) ((A k).mk0 (Q.C k)).cells 99
theorem Run2.below {w w' : World} {rb2 gc n G : Nat} {aI : Option Addr} {a2 : Nat → Nat} {A : Nat → AR} {Q : PS} {c d : Nat → Int} (h : Run2 w rb2 gc n G aI a2 A Q c d) (hb : Below w.heap.size w w') : Run2 w' rb2 gc n G aI a2 A Q c d :=
  ⟨h.cn.of_block (hb.block _ h.cn.lt), h.ix.below hb, h.rt.of_block (hb.block _ h.rt.lt), fun k hk => (h.hr k hk).below hb⟩

set_option maxRecDepth 1000000 in
set_option maxHeartbeats 16000000 in
theorem partB {x1 x3 x4 x5 x8 x10 x11 x12 x13 x14 x15 x16 x17 x18 x19 x20 x25 x26 x28 x29 x32 x33 x34 x35 x36 x37 x38 x39 x40 x41 x42 x43 x44 x45 x46 x47 x48 x49 x50 x51 x52 x53 x54 x55 x56 x57 x58 x59 x60 x61 x62 x63 x64 x65 x66 x67 x68 x69 x70 x71 x72 x73 x74 x75 x76 x77 x78 x79 x80 x81 x82 x83 x84 x85 x86 x87 x88 x89 x90 x91 x92 x93 x94 x95 x96 x97 x98 x99 x100 x101 x102 x103 x104 x105 x106 x107 x108 x109 x110 x111 x112 x113 x114 x115 x116 x117 x118 x119 x120 x121 x122 x123 x124 x125 x126 x127 x128 x129 x130 x131 x132 x133 x134 x135 x136 x137 x138 x139 x140 x141 x142 x143 x144 x145 x146 x147 x148 x149 x150 x151 x152 x153 x154 x155 x156 x157 x158 x159 x160 x161 x162 x163 x164 x165 x166 x167 x168 x169 x170 x171 x172 x173 x174 x175 x176 x177 x178 x179 x180 x181 x182 x183 x184 x185 x186 x187 x188 x189 x190 x191 x192 x193 x194 x195 x196 x197 x198 x199 x200 x201 x202 x203 x204 x205 x206 x207 x208 x209 x210 x211 x212 x213 x214 x215 x216 x217 x218 x219 x220 x221 x222 x223 x224 x225 x226 x227 x228 x229 x230 x231 x232 x233 x234 x235 x236 x237 x238 x239 x240 x241 x242 x243 x244 x245 x246 x247 x248 x249 x250 x251 x252 x253 x254 x255 x256 x257 x258 x259 x260 x261 x262 x263 x264 x265 x266 x267 x268 x269 x270 x271 x272 x273 x274 x275 x276 x277 x278 x279 x280 x281 x282 x283 x284 x285 x286 x287 x288 x289 x290 x291 x292 x293 x294 x295 x296 x297 x298 x299 x300 x301 x302 x303 x304 x305 x306 x307 x308 x309 x310 x311 x312 x313 x314 x315 x316 x317 x318 x319 x320 x321 x322 x323 x324 x325 x326 x327 x328 x329 x330 x331 x332 x333 x334 x335 x336 x337 x338 x339 x340 x341 x342 x343 x344 x345 x346 x347 x348 x349 x350 x351 x352 x353 x354 x355 x356 x357 x358 x359 x360 x361 x362 x363 x364 x365 x366 x367 x368 x369 x370 x371 x372 x373 x374 x375 x376 x377 x378 x379 x380 x381 x382 x383 x384 x385 x386 x387 x388 x389 x390 x391 x392 x393 x394 x395 x396 x397 x398 x399 x400 x401 x402 x403 x404 x405 x406 x407 x408 x409 x410 x411 x412 x413 x414 x415 x416 x417 x418 x419 x420 x421 x422 x423 x424 x425 x426 x427 x428 x429 x430 x431 x432 x433 x434 x435 x436 : Value}
    (aR aF aB aL aE aK aI : Option Addr) (cR cB cE cK cI rb s ob lb n G m B nf ne nk mv rb2 gc co : Nat) (now linger : Int) (j : Nat) (a a2 : Nat → Nat) (S : Sum) (A : Nat → AR) (P : PS) (fr la va O c d : Nat → Int) (ex : Nat → Int × Int) (ky : Nat → ByteArray) (w0 w : World)
    (hE : Env w aR aF aB aL aE aK rb s ob lb n G m B nf ne nk mv a S A P ((qu ex ne).drop j ++ rq now linger (fun k => (A k).h) ex j) (dl now linger (fun k => (A k).h) (fun k => (A k).id) ex (mpk ky va a nk) j) fr la va O ex ky) (hN : Num n G nf ne nk fr la va ex)
    (h2 : Run2 w rb2 gc n G aI a2 A P c d) (hCD : CD n G P O c d)
    (hS1 : 0 < G → S.opn = .slice (some ⟨ob, 0, none⟩) G co) (hS2 : S.last = .slice (some ⟨lb, 0, none⟩) G G) (hS4 : S.mp = .map (some m)) (hj : Pre now linger ex ne j) (hb0 : Below w0.heap.size w0 w) :
    Code.wp Try.prog (rest3 19) (bodyPost Try.prog Try.f3 (fun e w' => e = .returned (.bool true) ∧ Below w0.heap.size w0 w')) ⟨#[.int .i64 linger, x1, .slice aR n cR, x3, x4, x5, .slice aE ne cE, .slice aK nk cK, x8, .int .i64 now, x10, x11, x12, x13, x14, x15, x16, x17, x18, x19, x20, .slice aB G cB, .slice (some ⟨rb, 0, none⟩) n n, .pointer (some ⟨s, 0, none⟩), .map (some mv), x25, x26, .slice (some ⟨rb2, 0, none⟩) n n, x28, x29, .slice (some ⟨gc, 0, none⟩) G G, .slice aI G cI, x32, x33, x34, x35, x36, x37, x38, x39, x40, x41, x42, x43, x44, x45, x46, x47, x48, x49, x50, x51, x52, x53, x54, x55, x56, x57, x58, x59, x60, x61, x62, x63, x64, x65, x66, x67, x68, x69, x70, x71, x72, x73, x74, x75, x76, x77, x78, x79, x80, x81, x82, x83, x84, x85, x86, x87, x88, x89, x90, x91, x92, x93, x94, x95, x96, x97, x98, x99, x100, x101, x102, x103, x104, x105, x106, x107, x108, x109, x110, x111, x112, x113, x114, x115, x116, x117, x118, x119, x120, x121, x122, x123, x124, x125, x126, x127, x128, x129, x130, x131, x132, x133, x134, x135, x136, x137, x138, x139, x140, x141, x142, x143, x144, x145, x146, x147, x148, x149, x150, x151, x152, x153, x154, x155, x156, x157, x158, x159, x160, x161, x162, x163, x164, x165, x166, x167, x168, x169, x170, x171, x172, x173, x174, x175, x176, x177, x178, x179, x180, x181, x182, x183, x184, x185, x186, x187, x188, x189, x190, x191, x192, x193, x194, x195, x196, x197, x198, x199, x200, x201, x202, x203, x204, x205, x206, x207, x208, x209, x210, x211, x212, x213, x214, x215, x216, x217, x218, x219, x220, x221, x222, x223, x224, x225, x226, x227, x228, x229, x230, x231, x232, x233, x234, x235, x236, x237, x238, x239, x240, x241, x242, x243, x244, x245, x246, x247, x248, x249, x250, x251, x252, x253, x254, x255, x256, x257, x258, x259, x260, x261, x262, x263, x264, x265, x266, x267, x268, x269, x270, x271, x272, x273, x274, x275, x276, x277, x278, x279, x280, x281, x282, x283, x284, x285, x286, x287, x288, x289, x290, x291, x292, x293, x294, x295, x296, x297, x298, x299, x300, x301, x302, x303, x304, x305, x306, x307, x308, x309, x310, x311, x312, x313, x314, x315, x316, x317, x318, x319, x320, x321, x322, x323, x324, x325, x326, x327, x328, x329, x330, x331, x332, x333, x334, x335, x336, x337, x338, x339, x340, x341, x342, x343, x344, x345, x346, x347, x348, x349, x350, x351, x352, x353, x354, x355, x356, x357, x358, x359, x360, x361, x362, x363, x364, x365, x366, x367, x368, x369, x370, x371, x372, x373, x374, x375, x376, x377, x378, x379, x380, x381, x382, x383, x384, x385, x386, x387, x388, x389, x390, x391, x392, x393, x394, x395, x396, x397, x398, x399, x400, x401, x402, x403, x404, x405, x406, x407, x408, x409, x410, x411, x412, x413, x414, x415, x416, x417, x418, x419, x420, x421, x422, x423, x424, x425, x426, x427, x428, x429, x430, x431, x432, x433, x434, x435, x436], []⟩ w := by
  have HE := Hid.mk' hE
  have HN := Hid.mk' hN
  have H2R := Hid.mk' h2
  have HCD := Hid.mk' hCD
  have H1 := Hid.mk' hS1
  have H2 := Hid.mk' hS2
  have H4 := Hid.mk' hS4
  have HJ := Hid.mk' hj
  have b1 := hN.bn
  have b2 := hN.bG
  have b4 := hN.bne
  clear hE hN h2 hCD hS1 hS2 hS4 hj
  conv => arg 2; whnf
  go_wp2
  go_loopg [35] G (fun g i wr => ∃ k : Nat, k ≤ G ∧ g = G - k ∧ i = .int .i64 k ∧ Below w.heap.size w wr)
  case atStart => exact ⟨0, Nat.zero_le _, rfl, rfl, Below.refl _ _⟩
  case round =>
    obtain ⟨k, hk, hg, rfl, hb⟩ := hrel
    by_cases hlt : k < G
    · have hs := (HE.out.below hb).aw.pw.hs
      obtain ⟨b, off, hx, hl, c0⟩ := (HE.out.below hb).iB.le hlt
      obtain ⟨b', off', hx', hl', c1⟩ := (H2R.out.below hb).ix.le hlt
      subst hx hx'
      have c2 := (H2R.out.below hb).cn.cell hlt
      have r2 := HCD.out.r k hlt
      have cO : wr.cell? ⟨ob, k, none⟩ = some (.int .i64 (P.O k)) := (HE.out.below hb).aw.pw.ho.cell hlt
      rw [HCD.out.o k hlt] at cO
      have cL := (HE.out.below hb).aw.pw.hl.cell hlt
      rw [HCD.out.l k hlt] at cL
      have HA := Hid.mk' (fun x => open_any s ob G co k _ S (wr.drewN x) hs (H1.out (by omega)) hlt cO)
      have HB := Hid.mk' (fun x => last_any s lb G G k _ S (wr.drewN x) hs H2.out hlt cL)
      have HC := Hid.mk' (fun x => lastIs_any rb n n a (d k) (wr.drewN x) (HE.out.below hb).rs r2)
      clear hs cO cL r2
      revert HB HC
      generalize ptr a (dec (d k)) = pv
      intro HB HC
      go_wp2
      go_quiet (first | (go_at_call 18; exact Calls.quiet_of_same (HA.out _)) | (go_at_call 20; exact Calls.quiet_of_same (HB.out _)) | (go_at_call 19; exact Calls.quiet_of_same (HC.out _)))
      clear HA HB HC
      have hb' := below_drewN hb nq
      go_wp2
      go_roundg (G - (k + 1))
      case measure => omega
      case rel => exact ⟨k + 1, by omega, rfl, by go_num, hb'⟩
    · have e : G = k := by omega
      subst e
      obtain ⟨w3, hw3⟩ : ∃ w3, wr = w3 := ⟨_, rfl⟩
      subst hw3
      clear hg
      go_wp2
      go_loopg [36] n (fun g i wr => ∃ k : Nat, k ≤ n ∧ g = n - k ∧ i = .int .i64 k ∧ Below w.heap.size w wr)
      case atStart => exact ⟨0, Nat.zero_le _, rfl, rfl, hb⟩
      case round =>
        clear hb
        obtain ⟨k, hk, hg, rfl, hb⟩ := hrel
        by_cases hlt : k < n
        · have hrk := (HE.out.below hb).aw.pw.hr k hlt
          have hrk2 := (H2R.out.below hb).hr k hlt
          have c1 := (HE.out.below hb).rs.cell hlt
          have c2 := (H2R.out.below hb).rt.cell hlt
          have HA : Hid (∀ x, Calls Try.prog 21 #[.pointer (some ⟨a k, 0, none⟩)] (wr.drewN x) fun e w' => e = .returned (.bool (P.C k)) ∧ w' = wr.drewN x) := fun x => clashes_any (a k) _ (wr.drewN x) hrk
          have HB : Hid (∀ x, Calls Try.prog 21 #[.pointer (some ⟨a2 k, 0, none⟩)] (wr.drewN x) fun e w' => e = .returned (.bool (P.C k)) ∧ w' = wr.drewN x) := fun x => clashes_any (a2 k) _ (wr.drewN x) hrk2
          clear hrk hrk2
          revert HA HB
          generalize P.C k = cl
          intro HA HB
          cases cl
          all_goals
            go_wp2
            go_quiet (first | (go_at_call 21; exact Calls.quiet_of_same (HA.out _)) | (go_at_call 21; exact Calls.quiet_of_same (HB.out _)))
            clear HA HB
            have hb' := below_drewN hb nq
            go_wp2
            go_roundg (n - (k + 1))
            case measure => omega
            case rel => exact ⟨k + 1, by omega, rfl, by go_num, hb'⟩
        · have e : n = k := by omega
          subst e
          obtain ⟨w4, hw4⟩ : ∃ w4, wr = w4 := ⟨_, rfl⟩
          subst hw4
          clear hg H2R HCD H1 H2
          go_wp2
          go_loopg [37] ne (fun g i w5 => ∃ k : Nat, k ≤ ne ∧ g = ne - k ∧ i = .int .i64 k ∧ Old now linger ex k ∧ w5 = wr)
          case atStart => exact ⟨0, Nat.zero_le _, rfl, rfl, Old.zero _ _ _, rfl⟩
          case round =>
            obtain ⟨k, hk, hg, rfl, hO, hw5⟩ := hrel
            subst hw5
            have HO := Hid.mk' hO
            clear hO
            by_cases hlt : k < ne
            · obtain ⟨b, off, hx, hl, c0, c1⟩ := (HE.out.below hb).iE.le hlt
              by_cases hc : linger < wrap64 (now - (ex k).1)
              · subst hx
                go_wp2
                go_roundg (ne - (k + 1))
                case measure => omega
                case rel => exact ⟨k + 1, by omega, rfl, by go_num, HO.out.step hc, rfl⟩
              · have hkj : k = j := Pre.uniq (now := now) (linger := linger) (ex := ex) (ne := ne) ⟨hk, HO.out, fun _ => by omega⟩ HJ.out
                subst hkj
                subst hx
                go_upto_if 297 with fail
                go_step
                go_step
                go_step
                go_step
                exact partC aR aF aB aL _ aK cR cE cK rb s ob lb n G m B nf ne nk mv now linger k a S A P fr la va O ex ky w0 _ (HE.out.below hb) HN.out H4.out hk (chain hb0 hb)
            · have hkj : k = j := Pre.uniq (now := now) (linger := linger) (ex := ex) (ne := ne) ⟨hk, HO.out, fun q => by omega⟩ HJ.out
              subst hkj
              go_upto_if 297 with fail
              go_step
              go_step
              go_step
              go_step
              exact partC aR aF aB aL aE aK cR cE cK rb s ob lb n G m B nf ne nk mv now linger k a S A P fr la va O ex ky w0 _ (HE.out.below hb) HN.out H4.out hk (chain hb0 hb)

end Go.Proofs.Qxb6619458a
