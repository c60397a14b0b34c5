import Derived.Test.Qxb6619458aAPd
import Derived.Test.Qxb6619458aATwo
import Derived.Deep.AppendLies
namespace Go.Proofs.Qxb6619458a
open Go.RowKit
attribute [local go_sem ↓] Go.wp_at_zero Go.wp_at_succ

theorem Two.alloc {w5 wr : World} {vF vR : Value} {L : List (Int × Nat)} (h : Two w5 wr vF vR L) (o : Obj) : Two w5 (wr.alloc o) vF vR L :=
  ⟨h.f.alloc _, h.r.alloc _, h.ap, h.be.alloc h.be.size _⟩

set_option maxRecDepth 1000000 in
set_option maxHeartbeats 16000000 in
theorem partC {x1 x3 x4 x5 x8 x10 x11 x12 x13 x14 x15 x16 x17 x18 x19 x20 x21 x25 x26 x27 x28 x29 x30 x31 x32 x33 x34 x35 x36 x38 x39 x40 x41 x42 x43 x44 x45 x46 x47 x48 x49 x50 x51 x52 x53 x54 x55 x56 x57 x58 x59 x60 x61 x62 x63 x64 x65 x66 x67 x68 x69 x70 x71 x72 x73 x74 x75 x76 x77 x78 x79 x80 x81 x82 x83 x84 x85 x86 x87 x88 x89 x90 x91 x92 x93 x94 x95 x96 x97 x98 x99 x100 x101 x102 x103 x104 x105 x106 x107 x108 x109 x110 x111 x112 x113 x114 x115 x116 x117 x118 x119 x120 x121 x122 x123 x124 x125 x126 x127 x128 x129 x130 x131 x132 x133 x134 x135 x136 x137 x138 x139 x140 x141 x142 x143 x144 x145 x146 x147 x148 x149 x150 x151 x152 x153 x154 x155 x156 x157 x158 x159 x160 x161 x162 x163 x164 x165 x166 x167 x168 x169 x170 x171 x172 x173 x174 x175 x176 x177 x178 x179 x180 x181 x182 x183 x184 x185 x186 x187 x188 x189 x190 x191 x192 x193 x194 x195 x196 x197 x198 x199 x200 x201 x202 x203 x204 x205 x206 x207 x208 x209 x210 x211 x212 x213 x214 x215 x216 x217 x218 x219 x220 x221 x222 x223 x224 x225 x226 x227 x228 x229 x230 x231 x232 x233 x234 x235 x236 x237 x238 x239 x240 x241 x242 x243 x244 x245 x246 x247 x248 x249 x250 x251 x252 x253 x254 x255 x256 x257 x258 x259 x260 x261 x262 x263 x264 x265 x266 x267 x268 x269 x270 x271 x272 x273 x274 x275 x276 x277 x278 x279 x280 x281 x282 x283 x284 x285 x286 x287 x288 x289 x290 x291 x292 x293 x294 x295 x296 x297 x298 x299 x300 x301 x302 x303 x304 x305 x306 x307 x308 x309 x310 x311 x312 x313 x314 x315 x316 x317 x318 x319 x320 x321 x322 x323 x324 x325 x326 x327 x328 x329 x330 x331 x332 x333 x334 x335 x336 x337 x338 x339 x340 x341 x342 x343 x344 x345 x346 x347 x348 x349 x350 x351 x352 x353 x354 x355 x356 x357 x358 x359 x360 x361 x362 x363 x364 x365 x366 x367 x368 x369 x370 x371 x372 x373 x374 x375 x376 x377 x378 x379 x380 x381 x382 x383 x384 x385 x386 x387 x388 x389 x390 x391 x392 x393 x394 x395 x396 x397 x398 x399 x400 x401 x402 x403 x404 x405 x406 x407 x408 x409 x410 x411 x412 x413 x414 x415 x416 x417 x418 x419 x420 x421 x422 x423 x424 x425 x426 x427 x428 x429 x430 x431 x432 x433 x434 x435 x436 : Value}
    (aR aF aB aL aE aK : Option Addr) (cR cE cK rb s ob lb n G m B nf ne nk mv : Nat) (now linger : Int) (j : Nat) (a : Nat → Nat) (S : Sum) (A : Nat → AR) (P : PS) (fr la va O : Nat → Int) (ex : Nat → Int × Int) (ky : Nat → ByteArray) (w0 w : World)
    (hE : Env w aR aF aB aL aE aK rb s ob lb n G m B nf ne nk mv a S A P ((qu ex ne).drop j ++ rq now linger (fun k => (A k).h) ex j) (dl now linger (fun k => (A k).h) (fun k => (A k).id) ex (mpk ky va a nk) j) fr la va O ex ky) (hN : Num n G nf ne nk fr la va ex)
    (hS4 : S.mp = .map (some m)) (hj : j ≤ ne) (hb0 : Below w0.heap.size w0 w) :
    Code.wp Try.prog (rest3 23) (bodyPost Try.prog Try.f3 (fun e w' => e = .returned (.bool true) ∧ Below w0.heap.size w0 w')) ⟨#[.int .i64 linger, x1, .slice aR n cR, x3, x4, x5, .slice aE ne cE, .slice aK nk cK, x8, .int .i64 now, x10, x11, x12, x13, x14, x15, x16, x17, x18, x19, x20, x21, .slice (some ⟨rb, 0, none⟩) n n, .pointer (some ⟨s, 0, none⟩), .map (some mv), x25, x26, x27, x28, x29, x30, x31, x32, x33, x34, x35, x36, .int .i64 (j : Int), x38, x39, x40, x41, x42, x43, x44, x45, x46, x47, x48, x49, x50, x51, x52, x53, x54, x55, x56, x57, x58, x59, x60, x61, x62, x63, x64, x65, x66, x67, x68, x69, x70, x71, x72, x73, x74, x75, x76, x77, x78, x79, x80, x81, x82, x83, x84, x85, x86, x87, x88, x89, x90, x91, x92, x93, x94, x95, x96, x97, x98, x99, x100, x101, x102, x103, x104, x105, x106, x107, x108, x109, x110, x111, x112, x113, x114, x115, x116, x117, x118, x119, x120, x121, x122, x123, x124, x125, x126, x127, x128, x129, x130, x131, x132, x133, x134, x135, x136, x137, x138, x139, x140, x141, x142, x143, x144, x145, x146, x147, x148, x149, x150, x151, x152, x153, x154, x155, x156, x157, x158, x159, x160, x161, x162, x163, x164, x165, x166, x167, x168, x169, x170, x171, x172, x173, x174, x175, x176, x177, x178, x179, x180, x181, x182, x183, x184, x185, x186, x187, x188, x189, x190, x191, x192, x193, x194, x195, x196, x197, x198, x199, x200, x201, x202, x203, x204, x205, x206, x207, x208, x209, x210, x211, x212, x213, x214, x215, x216, x217, x218, x219, x220, x221, x222, x223, x224, x225, x226, x227, x228, x229, x230, x231, x232, x233, x234, x235, x236, x237, x238, x239, x240, x241, x242, x243, x244, x245, x246, x247, x248, x249, x250, x251, x252, x253, x254, x255, x256, x257, x258, x259, x260, x261, x262, x263, x264, x265, x266, x267, x268, x269, x270, x271, x272, x273, x274, x275, x276, x277, x278, x279, x280, x281, x282, x283, x284, x285, x286, x287, x288, x289, x290, x291, x292, x293, x294, x295, x296, x297, x298, x299, x300, x301, x302, x303, x304, x305, x306, x307, x308, x309, x310, x311, x312, x313, x314, x315, x316, x317, x318, x319, x320, x321, x322, x323, x324, x325, x326, x327, x328, x329, x330, x331, x332, x333, x334, x335, x336, x337, x338, x339, x340, x341, x342, x343, x344, x345, x346, x347, x348, x349, x350, x351, x352, x353, x354, x355, x356, x357, x358, x359, x360, x361, x362, x363, x364, x365, x366, x367, x368, x369, x370, x371, x372, x373, x374, x375, x376, x377, x378, x379, x380, x381, x382, x383, x384, x385, x386, x387, x388, x389, x390, x391, x392, x393, x394, x395, x396, x397, x398, x399, x400, x401, x402, x403, x404, x405, x406, x407, x408, x409, x410, x411, x412, x413, x414, x415, x416, x417, x418, x419, x420, x421, x422, x423, x424, x425, x426, x427, x428, x429, x430, x431, x432, x433, x434, x435, x436], []⟩ w := by
  have HE := Hid.mk' hE
  have HN := Hid.mk' hN
  have b1 := hN.bn
  have b4 := hN.bne
  have hm1 := fun w => make_own w 49 2 Try.underlying49 Try.info2 ne b4
  have hm2 := fun w => make_own w 23 3 Try.underlying23 Try.info3 ne b4
  have hmm := @run_makeMap Try.prog
  obtain ⟨i2, hi2, hz20, hz21, hz22⟩ := info_parts Try.info2
  obtain ⟨i3, hi3, hz30, hz31, hz32⟩ := info_parts Try.info3
  clear hE hN
  conv => arg 2; whnf
  go_wp2
  clear hm1 hm2
  go_loopg [38, 39, 40] (ne - j) (fun g vF vR i wr => ∃ k : Nat, j ≤ k ∧ k ≤ ne ∧ g = ne - k ∧ i = .int .i64 k ∧ Two w wr vF vR ((qu ex k).drop j))
  case atStart => exact ⟨j, Nat.le_refl _, hj, rfl, rfl, by rw [qu_drop_self]; exact Two.start w ne b4⟩
  case round =>
    obtain ⟨k, hjk, hk, hg, rfl, hT⟩ := hrel
    have hlen : ((qu ex k).drop j).length ≤ 65536 := by rw [List.length_drop, qu_len]; omega
    obtain ⟨L, hL⟩ : ∃ L, (qu ex k).drop j = L := ⟨_, rfl⟩
    rw [hL] at hT hlen
    have HL := Hid.mk' hL
    obtain ⟨oF, cF, hvF⟩ := own_form hT.f
    obtain ⟨oR, cR', hvR⟩ := own_form hT.r
    subst hvF hvR
    have HT := Hid.mk' hT
    have zr := hT.be.size
    clear hT hL
    by_cases hlt : k < ne
    · obtain ⟨b, off, hx, hl, c0, c1⟩ := HE.out.iE.le hlt
      subst hx
      have d0 := (HT.out.be.cell (p := ⟨b, off + k * 2, none⟩) hl).trans c0
      have lb1 : b < wr.heap.size := by omega
      obtain ⟨r1, r2⟩ : 0 ≤ (ex k).2 ∧ (ex k).2 < n := HN.out.rE k hlt
      obtain ⟨q, hq⟩ : ∃ q : Nat, (ex k).2 = q := ⟨(ex k).2.toNat, by omega⟩
      have HQ : Hid ((ex k).2.toNat = q) := by show (ex k).2.toNat = q; omega
      clear r1 r2
      go_wp2_with (at_builtin; refine wpList_append_lies _ rfl (.tmp 313) (.tmp 319) 49 rfl w.heap.size 2 i2 (.int .i64 0) 1 8 Try.underlying49 hi2 hz20 hz21 hz22 rfl (by decide) (.slice oF L.length cF) L.length (fL L) rfl ?hown ⟨wr.heap.size, 0, none⟩ 1 1 [.int .i64 (ex k).1] rfl rfl ?hnews ?h1 (by omega) ?h63 ?hby ?hba (wr.heap.size + 1) ?hH ?_)
      case hown => exact HT.out.f.alloc _
      case hnews => exact World.news_of_block (heap_alloc_new wr (.cells #[.int .i64 (ex k).1] 2))
      case h1 => intro u hu; simp at hu; subst hu; rfl
      case h63 => unfold maxLen; omega
      case hby => omega
      case hba => simp; omega
      case hH => simp
      intro g1 cap1 w1 hown1 hgr1 hat1 hlt1
      have HH := Hid.mk' (HT.out.stepF rfl hown1 hgr1 hat1)
      have f1 := cell_nat ((HH.out.be.cell (p := ⟨b, off + k * 2 + 1, none⟩) hl).trans c1) hq
      have zw1 := HH.out.be.size
      have lb2 : b < w1.heap.size := by omega
      clear hown1 hgr1 hat1 HT d0 c0 c1
      go_wp2_with (at_builtin; refine wpList_append_lies _ rfl (.tmp 321) (.tmp 327) 23 rfl w.heap.size 3 i3 (.int .i64 0) 1 8 Try.underlying23 hi3 hz30 hz31 hz32 rfl (by decide) (.slice oR L.length cR') L.length (rL L) rfl ?hown ⟨w1.heap.size, 0, none⟩ 1 1 [.int .i64 (q : Int)] rfl rfl ?hnews ?h1 (by omega) ?h63 ?hby ?hba (w1.heap.size + 1) ?hH ?_)
      case hown => exact HH.out.r.alloc _
      case hnews => exact World.news_of_block (heap_alloc_new w1 (.cells #[.int .i64 (q : Int)] 3))
      case h1 => intro u hu; simp at hu; subst hu; rfl
      case h63 => unfold maxLen; omega
      case hby => omega
      case hba => have := HH.out.be.size; simp; omega
      case hH => simp
      intro g2 cap2 w2 hown2 hgr2 hat2 hlt2
      have HT2 := Hid.mk' (HH.out.step (q := q) rfl hown2 hgr2 hat2)
      clear hown2 hgr2 hat2 HH f1
      go_wp2
      go_roundg (ne - (k + 1))
      case measure => omega
      case rel => exact ⟨k + 1, by omega, by omega, rfl, by go_num, by rw [qu_drop_succ ex hjk, HQ.out, HL.out]; exact HT2.out⟩
    · have e : ne = k := by omega
      subst e
      have HT0 := Hid.mk' (HT.out.alloc (.map #[] 0))
      have HM0 : Hid (MapS (wr.alloc (.map #[] 0)) wr.heap.size (fun _ => none)) := MapS.ofNil (heap_alloc_new wr (.map #[] 0))
      clear HT hg
      go_wp2
      clear hmm
      obtain ⟨md, hmd⟩ : ∃ md, wr.heap.size = md := ⟨_, rfl⟩
      revert HT0 HM0
      rw [hmd] at zr ⊢
      generalize wr.alloc (.map #[] 0) = w8
      intro HT0 HM0
      clear hmd
      go_loopg [38, 39, 42, 43] j (fun g vF vR i _ wr => ∃ k : Nat, k ≤ j ∧ g = j - k ∧ i = .int .i64 k ∧ Two w wr vF vR ((qu ex ne).drop j ++ rq now linger (fun k => (A k).h) ex k) ∧ MapS wr md (dele now linger (fun k => (A k).h) (fun k => (A k).id) ex k))
      case atStart => exact ⟨0, Nat.zero_le _, rfl, rfl, by rw [rq, List.append_nil, HL.out]; exact HT0.out, HM0.out⟩
      case round =>
        obtain ⟨k, hk, hg, rfl, hT, hM⟩ := hrel
        have hlen2 : ((qu ex ne).drop j ++ rq now linger (fun k => (A k).h) ex k).length ≤ 131072 := by
          have := rq_len now linger (fun k => (A k).h) ex k
          rw [List.length_append, List.length_drop, qu_len]; omega
        obtain ⟨L2, hL2⟩ : ∃ L2, (qu ex ne).drop j ++ rq now linger (fun k => (A k).h) ex k = L2 := ⟨_, rfl⟩
        rw [hL2] at hT hlen2
        have HL2 := Hid.mk' hL2
        obtain ⟨oF, cF, hvF⟩ := own_form hT.f
        obtain ⟨oR, cR', hvR⟩ := own_form hT.r
        have zr2 := hT.be.size
        by_cases hlt : k < j
        · subst hvF hvR
          have HT := Hid.mk' hT
          have HM := Hid.mk' hM
          clear hT hM hL2 HT0 HM0
          obtain ⟨b, off, hx, hl, c0, c1⟩ := HE.out.iE.le (show k < ne by omega)
          subst hx
          have lb1 : b < wr.heap.size := by omega
          obtain ⟨r1, r2⟩ : 0 ≤ (ex k).2 ∧ (ex k).2 < n := HN.out.rE k (by omega)
          obtain ⟨q, hq⟩ : ∃ q : Nat, (ex k).2 = q := ⟨(ex k).2.toNat, by omega⟩
          have HQ : Hid ((ex k).2.toNat = q) := by show (ex k).2.toNat = q; omega
          have d1 := cell_nat ((HT.out.be.cell (p := ⟨b, off + k * 2 + 1, none⟩) hl).trans c1) hq
          have hqn : q < n := by omega
          obtain ⟨bR, oR2, hxR, hlR, e0, _, _, _, e4⟩ := HE.out.iR.le hqn
          subst hxR
          have d0 := (HT.out.be.cell (p := ⟨bR, oR2 + q * 5, none⟩) hlR).trans e0
          have d4 := (HT.out.be.cell (p := ⟨bR, oR2 + q * 5 + 4, none⟩) hlR).trans e4
          have lR1 : bR < wr.heap.size := by omega
          have hqI : (0 : Int) ≤ (q : Int) := by omega
          have hqJ : (q : Int) < (n : Int) := by omega
          clear r1 r2 c0 c1 hq
          by_cases hc : wrap64 (now - (A q).h) ≤ linger
          · have HC : Hid (rq now linger (fun k => (A k).h) ex (k + 1) = rq now linger (fun k => (A k).h) ex k ++ [((A q).h, q)] ∧ dele now linger (fun k => (A k).h) (fun k => (A k).id) ex (k + 1) = dele now linger (fun k => (A k).h) (fun k => (A k).id) ex k) := by
              constructor
              · rw [rq, HQ.out, if_pos hc]
              · rw [dele, HQ.out, if_pos hc]
            go_wp2_with (at_builtin; refine wpList_append_lies _ rfl (.tmp 349) (.tmp 355) 49 rfl w.heap.size 2 i2 (.int .i64 0) 1 8 Try.underlying49 hi2 hz20 hz21 hz22 rfl (by decide) (.slice oF L2.length cF) L2.length (fL L2) rfl ?hown ⟨wr.heap.size, 0, none⟩ 1 1 [.int .i64 (A q).h] rfl rfl ?hnews ?h1 (by omega) ?h63 ?hby ?hba (wr.heap.size + 1) ?hH ?_)
            case hown => exact HT.out.f.alloc _
            case hnews => exact World.news_of_block (heap_alloc_new wr (.cells #[.int .i64 (A q).h] 2))
            case h1 => intro u hu; simp at hu; subst hu; rfl
            case h63 => unfold maxLen; omega
            case hby => omega
            case hba => simp; omega
            case hH => simp
            intro g1 cap1 w1 hown1 hgr1 hat1 hlt1
            have HH := Hid.mk' (HT.out.stepF rfl hown1 hgr1 hat1)
            have HM1 := Hid.mk' (HM.out.app HT.out.f hgr1)
            clear hown1 hgr1 hat1 HT HM d0 d4 d1 e0 e4
            go_wp2_with (at_builtin; refine wpList_append_lies _ rfl (.tmp 357) (.tmp 359) 23 rfl w.heap.size 3 i3 (.int .i64 0) 1 8 Try.underlying23 hi3 hz30 hz31 hz32 rfl (by decide) (.slice oR L2.length cR') L2.length (rL L2) rfl ?hown ⟨w1.heap.size, 0, none⟩ 1 1 [.int .i64 (q : Int)] rfl rfl ?hnews ?h1 (by omega) ?h63 ?hby ?hba (w1.heap.size + 1) ?hH ?_)
            case hown => exact HH.out.r.alloc _
            case hnews => exact World.news_of_block (heap_alloc_new w1 (.cells #[.int .i64 (q : Int)] 3))
            case h1 => intro u hu; simp at hu; subst hu; rfl
            case h63 => unfold maxLen; omega
            case hby => omega
            case hba => have := HH.out.be.size; simp; omega
            case hH => simp
            intro g2 cap2 w2 hown2 hgr2 hat2 hlt2
            have HT2 := Hid.mk' (HH.out.step (q := q) rfl hown2 hgr2 hat2)
            have HM2 := Hid.mk' (HM1.out.app HH.out.r hgr2)
            clear hown2 hgr2 hat2 HH HM1
            go_wp2
            go_roundg (j - (k + 1))
            case measure => omega
            case rel => exact ⟨k + 1, by omega, rfl, by go_num, by rw [HC.out.1, ← List.append_assoc, HL2.out]; exact HT2.out, by rw [HC.out.2]; exact HM2.out⟩
          · have HC : Hid (rq now linger (fun k => (A k).h) ex (k + 1) = rq now linger (fun k => (A k).h) ex k ∧ dele now linger (fun k => (A k).h) (fun k => (A k).id) ex (k + 1) = upM (dele now linger (fun k => (A k).h) (fun k => (A k).id) ex k) (A q).id (some (.bool true))) := by
              constructor
              · rw [rq, HQ.out, if_neg hc, List.append_nil]
              · rw [dele, HQ.out, if_neg hc]
            obtain ⟨w9, hp, h1, h2⟩ := HM.out.put Try.underlying50 (A q).id (.bool true)
            have HM2 := Hid.mk' h1
            have HT2 := Hid.mk' (HT.out.fr HM.out h2 zr)
            clear h1 h2 HT HM e0 e4
            go_wp2
            go_roundg (j - (k + 1))
            case measure => omega
            case rel => exact ⟨k + 1, by omega, rfl, by go_num, by rw [HC.out.1, HL2.out]; exact HT2.out, by rw [HC.out.2]; exact HM2.out⟩
        · have e : j = k := by omega
          subst e
          go_upto_if 332 with fail
          go_step
          go_step
          go_step
          go_step
          subst hL2
          refine partD aR aF aB aL aE aK cK rb s ob lb n G m B nf ne nk mv md w.heap.size now linger j _ _ a S A P _ fr la va O ex ky w0 wr (HE.out.below hT.be) HN.out hS4 (by omega) ?_ hT.f hT.r hM (chain hb0 hT.be)
          intro x hx
          rcases List.mem_append.1 hx with hx | hx
          · exact qu_range ex n ne HN.out.rE x (List.mem_of_mem_drop hx)
          · exact rq_range now linger (fun k => (A k).h) ex n ne HN.out.rE j hj x hx

end Go.Proofs.Qxb6619458a
