import Derived.Test.Qxb6619458aAPb
namespace Go.Proofs.Qxb6619458a
open Go.RowKit
attribute [local go_sem ↓] Go.wp_at_zero Go.wp_at_succ

/-- The counts and the last indices in memory. -/
structure LW (w wr : World) (gc G : Nat) (aI : Option Addr) (c d : Nat → Int) : Prop where
  cn : wr.rowIs gc 3 G (fun g => .int .i64 (c g))
  ix : Cln wr (gc + 1) aI G d
  be : Below w.heap.size w wr
  gz : w.heap.size ≤ gc

theorem row_up {w : World} {b G : Nat} {c : Nat → Int} (h : w.rowIs b 3 G (fun g => .int .i64 (c g))) (g : Nat) (v : Int) : (w.setCell ⟨b, g, none⟩ (.int .i64 v)).rowIs b 3 G (fun i => .int .i64 (up c g v i)) := by
  refine (h.set g (.int .i64 v)).congr (fun i _ => ?_)
  show (if i = g then Value.int .i64 v else .int .i64 (c i)) = .int .i64 (up c g v i)
  unfold up
  split <;> rfl

theorem LW.setC {w wr : World} {gc G : Nat} {aI : Option Addr} {c d : Nat → Int} (h : LW w wr gc G aI c d) (g : Nat) (v : Int) : LW w (wr.setCell ⟨gc, g, none⟩ (.int .i64 v)) gc G aI (up c g v) d := by
  have F : Fr (· = gc) wr (wr.setCell ⟨gc, g, none⟩ (.int .i64 v)) := (Fr.refl _ _).setAt _ _
  exact ⟨row_up h.cn g v, h.ix.fr F (fun k hk q => by omega), h.be.setCell (p := ⟨gc, g, none⟩) h.gz _, h.gz⟩

theorem LW.setI {w wr : World} {gc G gi : Nat} {c d : Nat → Int} (h : LW w wr gc G (some ⟨gi, 0, none⟩) c d) (g : Nat) (v : Int) : LW w (wr.setCell ⟨gi, g, none⟩ (.int .i64 v)) gc G (some ⟨gi, 0, none⟩) c (up d g v) := by
  rcases h.ix with ⟨h1, _⟩ | ⟨g2, h1, h2, h3⟩
  · cases h1
  · have e : gi = g2 := by simpa using h1
    subst e
    have hz := h.gz
    exact ⟨h.cn.setOther (a := ⟨gi, g, none⟩) (by show gc ≠ gi; omega) _, .inr ⟨gi, rfl, h2, row_up h3 g v⟩, h.be.setCell (p := ⟨gi, g, none⟩) (by show w.heap.size ≤ gi; omega) _, hz⟩

theorem keep2f {F : Nat → Prop} {w w' : World} {b o b' o' : Nat} {v0 v1 : Value} (hb : Fr F w w') (hl : b < w.heap.size) (hn : ¬ F b) (hl' : b' < w.heap.size) (hn' : ¬ F b') (h : w.cell? ⟨b, o, none⟩ = some v0 ∧ w.cell? ⟨b', o', none⟩ = some v1) :
    w'.cell? ⟨b, o, none⟩ = some v0 ∧ w'.cell? ⟨b', o', none⟩ = some v1 := by
  rw [World.cell?_of_block (w := w) (a := ⟨b, o, none⟩) (hb.block b hl hn), World.cell?_of_block (w := w) (a := ⟨b', o', none⟩) (hb.block b' hl' hn')]
  exact h

set_option maxRecDepth 1000000 in
set_option maxHeartbeats 16000000 in
theorem partA3 {x1 x4 x8 x10 x11 x12 x13 x14 x15 x16 x17 x18 x19 x20 x25 x26 x28 x29 x30 x31 x32 x33 x34 x35 x36 x37 x38 x39 x40 x41 x42 x43 x44 x45 x46 x47 x48 x49 x50 x51 x52 x53 x54 x55 x56 x57 x58 x59 x60 x61 x62 x63 x64 x65 x66 x67 x68 x69 x70 x71 x72 x73 x74 x75 x76 x77 x78 x79 x80 x81 x82 x83 x84 x85 x86 x87 x88 x89 x90 x91 x92 x93 x94 x95 x96 x97 x98 x99 x100 x101 x102 x103 x104 x105 x106 x107 x108 x109 x110 x111 x112 x113 x114 x115 x116 x117 x118 x119 x120 x121 x122 x123 x124 x125 x126 x127 x128 x129 x130 x131 x132 x133 x134 x135 x136 x137 x138 x139 x140 x141 x142 x143 x144 x145 x146 x147 x148 x149 x150 x151 x152 x153 x154 x155 x156 x157 x158 x159 x160 x161 x162 x163 x164 x165 x166 x167 x168 x169 x170 x171 x172 x173 x174 x175 x176 x177 x178 x179 x180 x181 x182 x183 x184 x185 x186 x187 x188 x189 x190 x191 x192 x193 x194 x195 x196 x197 x198 x199 x200 x201 x202 x203 x204 x205 x206 x207 x208 x209 x210 x211 x212 x213 x214 x215 x216 x217 x218 x219 x220 x221 x222 x223 x224 x225 x226 x227 x228 x229 x230 x231 x232 x233 x234 x235 x236 x237 x238 x239 x240 x241 x242 x243 x244 x245 x246 x247 x248 x249 x250 x251 x252 x253 x254 x255 x256 x257 x258 x259 x260 x261 x262 x263 x264 x265 x266 x267 x268 x269 x270 x271 x272 x273 x274 x275 x276 x277 x278 x279 x280 x281 x282 x283 x284 x285 x286 x287 x288 x289 x290 x291 x292 x293 x294 x295 x296 x297 x298 x299 x300 x301 x302 x303 x304 x305 x306 x307 x308 x309 x310 x311 x312 x313 x314 x315 x316 x317 x318 x319 x320 x321 x322 x323 x324 x325 x326 x327 x328 x329 x330 x331 x332 x333 x334 x335 x336 x337 x338 x339 x340 x341 x342 x343 x344 x345 x346 x347 x348 x349 x350 x351 x352 x353 x354 x355 x356 x357 x358 x359 x360 x361 x362 x363 x364 x365 x366 x367 x368 x369 x370 x371 x372 x373 x374 x375 x376 x377 x378 x379 x380 x381 x382 x383 x384 x385 x386 x387 x388 x389 x390 x391 x392 x393 x394 x395 x396 x397 x398 x399 x400 x401 x402 x403 x404 x405 x406 x407 x408 x409 x410 x411 x412 x413 x414 x415 x416 x417 x418 x419 x420 x421 x422 x423 x424 x425 x426 x427 x428 x429 x430 x431 x432 x433 x434 x435 x436 : Value}
    (aR aF aB aL aE aK : Option Addr) (cR cF cB cL cE cK rb s ob lb n G m B nf ne nk mv rb2 co : Nat) (now linger : Int) (j : Nat) (a a2 : Nat → Nat) (S : Sum) (A : Nat → AR) (T : Nat → Nat → Int) (C : Nat → Bool) (fr la va O : Nat → Int) (ex : Nat → Int × Int) (ky : Nat → ByteArray) (w0 w : World)
    (hE : Env w aR aF aB aL aE aK rb s ob lb n G m B nf ne nk mv a S A (endJ A T (natT fr) ⟨O, Lk la G, C⟩ nf) ((qu ex ne).drop j ++ rq now linger (fun k => (A k).h) ex j) (dl now linger (fun k => (A k).h) (fun k => (A k).id) ex (mpk ky va a nk) j) fr la va O ex ky) (hN : Num n G nf ne nk fr la va ex)
    (hrt : w.rowIs rb2 40 n (fun i => .pointer (some ⟨a2 i, 0, none⟩))) (hr2 : ∀ k, k < n → Blk w (a2 k) ((A k).mk0 ((endJ A T (natT fr) ⟨O, Lk la G, C⟩ nf).C k)).cells 99)
    (hT : IsT w n A T) (hSm : Small A n) (hRT : ∀ i, i < nf → InR (T (natT fr i)) 0 G (A (natT fr i)).tl) (hOw : ∀ g, g < G → wrap64 (O g) = O g)
    (hS1 : 0 < G → S.opn = .slice (some ⟨ob, 0, none⟩) G co) (hS2 : S.last = .slice (some ⟨lb, 0, none⟩) G G) (hS4 : S.mp = .map (some m)) (hj : Pre now linger ex ne j) (hb0 : Below w0.heap.size w0 w) :
    Code.wp Try.prog (rest3 16) (bodyPost Try.prog Try.f3 (fun e w' => e = .returned (.bool true) ∧ Below w0.heap.size w0 w')) ⟨#[.int .i64 linger, x1, .slice aR n cR, .slice aF nf cF, x4, .slice aL G cL, .slice aE ne cE, .slice aK nk cK, x8, .int .i64 now, x10, x11, x12, x13, x14, x15, x16, x17, x18, x19, x20, .slice aB G cB, .slice (some ⟨rb, 0, none⟩) n n, .pointer (some ⟨s, 0, none⟩), .map (some mv), x25, x26, .slice (some ⟨rb2, 0, none⟩) n n, x28, x29, x30, x31, x32, x33, x34, x35, x36, x37, x38, x39, x40, x41, x42, x43, x44, x45, x46, x47, x48, x49, x50, x51, x52, x53, x54, x55, x56, x57, x58, x59, x60, x61, x62, x63, x64, x65, x66, x67, x68, x69, x70, x71, x72, x73, x74, x75, x76, x77, x78, x79, x80, x81, x82, x83, x84, x85, x86, x87, x88, x89, x90, x91, x92, x93, x94, x95, x96, x97, x98, x99, x100, x101, x102, x103, x104, x105, x106, x107, x108, x109, x110, x111, x112, x113, x114, x115, x116, x117, x118, x119, x120, x121, x122, x123, x124, x125, x126, x127, x128, x129, x130, x131, x132, x133, x134, x135, x136, x137, x138, x139, x140, x141, x142, x143, x144, x145, x146, x147, x148, x149, x150, x151, x152, x153, x154, x155, x156, x157, x158, x159, x160, x161, x162, x163, x164, x165, x166, x167, x168, x169, x170, x171, x172, x173, x174, x175, x176, x177, x178, x179, x180, x181, x182, x183, x184, x185, x186, x187, x188, x189, x190, x191, x192, x193, x194, x195, x196, x197, x198, x199, x200, x201, x202, x203, x204, x205, x206, x207, x208, x209, x210, x211, x212, x213, x214, x215, x216, x217, x218, x219, x220, x221, x222, x223, x224, x225, x226, x227, x228, x229, x230, x231, x232, x233, x234, x235, x236, x237, x238, x239, x240, x241, x242, x243, x244, x245, x246, x247, x248, x249, x250, x251, x252, x253, x254, x255, x256, x257, x258, x259, x260, x261, x262, x263, x264, x265, x266, x267, x268, x269, x270, x271, x272, x273, x274, x275, x276, x277, x278, x279, x280, x281, x282, x283, x284, x285, x286, x287, x288, x289, x290, x291, x292, x293, x294, x295, x296, x297, x298, x299, x300, x301, x302, x303, x304, x305, x306, x307, x308, x309, x310, x311, x312, x313, x314, x315, x316, x317, x318, x319, x320, x321, x322, x323, x324, x325, x326, x327, x328, x329, x330, x331, x332, x333, x334, x335, x336, x337, x338, x339, x340, x341, x342, x343, x344, x345, x346, x347, x348, x349, x350, x351, x352, x353, x354, x355, x356, x357, x358, x359, x360, x361, x362, x363, x364, x365, x366, x367, x368, x369, x370, x371, x372, x373, x374, x375, x376, x377, x378, x379, x380, x381, x382, x383, x384, x385, x386, x387, x388, x389, x390, x391, x392, x393, x394, x395, x396, x397, x398, x399, x400, x401, x402, x403, x404, x405, x406, x407, x408, x409, x410, x411, x412, x413, x414, x415, x416, x417, x418, x419, x420, x421, x422, x423, x424, x425, x426, x427, x428, x429, x430, x431, x432, x433, x434, x435, x436], []⟩ w := by
  have HE := Hid.mk' hE
  have HN := Hid.mk' hN
  have Hrt := Hid.mk' hrt
  have Hr2 := Hid.mk' hr2
  have HT := Hid.mk' hT
  have HSm := Hid.mk' hSm
  have HRT := Hid.mk' hRT
  have HOw := Hid.mk' hOw
  have H1 := Hid.mk' hS1
  have H2 := Hid.mk' hS2
  have H4 := Hid.mk' hS4
  have HJ := Hid.mk' hj
  have b1 := hN.bn
  have b2 := hN.bG
  have b3 := hN.bnf
  have hmk := run_make_row' (P := Try.prog) 23 3 (.int .i64 0) 8 Try.underlying23 (by kernel_rfl) rfl .i64 .i64 G (by omega) (by omega)
  have hba : Below w.heap.size w (w.alloc (.cells (madeCells #[.int .i64 0] G) 3)) := (Below.refl _ _).alloc (Nat.le_refl _) _
  have hza : (w.alloc (.cells (madeCells #[.int .i64 0] G) 3)).heap.size = w.heap.size + 1 := by simp
  have hcl := cloneInts_any aL G cL la (w.alloc (.cells (madeCells #[.int .i64 0] G) 3)) (by omega) (hE.iL.below hba)
  have hrw := World.rowIs_made w (.int .i64 0) G 3
  have HCl := Hid.mk' hcl
  have HRw := Hid.mk' hrw
  clear hE hN hrt hr2 hT hSm hRT hOw hS1 hS2 hS4 hj hcl hrw
  conv => arg 2; whnf
  go_wp2_with fail
  refine HCl.out.mono ?_
  rintro e w2 ⟨aI, cI, rfl, hI, hb2⟩
  have HL0 : Hid (LW w w2 w.heap.size G aI (fun _ => 0) la) := ⟨(HRw.out.of_block (hb2.block _ HRw.out.lt)), by rw [hza] at hI; exact hI, chain hba hb2, Nat.le_refl _⟩
  clear HCl HRw hmk hI hb2 hba hza
  have HCD0 := Hid.mk' (CD.start (C := C) HOw.out HN.out.rL)
  go_wp2
  go_loopg [32, 33, 34] nf (fun g i _ _ wr => ∃ (k : Nat) (c d : Nat → Int), k ≤ nf ∧ g = nf - k ∧ i = .int .i64 k ∧ LW w wr w.heap.size G aI c d ∧ CD n G (endJ A T (natT fr) ⟨O, Lk la G, C⟩ k) O c d)
  case atStart => exact ⟨0, _, _, Nat.zero_le _, rfl, rfl, HL0.out, HCD0.out⟩
  case round =>
    clear HL0 HCD0
    obtain ⟨k, c, d, hk, hg, rfl, hLW, hCD⟩ := hrel
    have HLW := Hid.mk' hLW
    have HCD := Hid.mk' hCD
    clear hLW hCD
    by_cases hlt : k < nf
    · obtain ⟨bF, oF, hxF, hlF, c0⟩ := HE.out.iF.le hlt
      subst hxF
      obtain ⟨r1, r2⟩ := HN.out.rF k hlt
      obtain ⟨q, hq⟩ : ∃ q : Nat, fr k = q := ⟨(fr k).toNat, by omega⟩
      have hqn : q < n := by omega
      have c0' := cell_nat c0 hq
      have HQ : Hid (natT fr k = q) := by show (fr k).toNat = q; omega
      have HC0 := Hid.mk' c0'
      have e0 := (HLW.out.be.cell (p := ⟨bF, oF + k, none⟩) hlF).trans c0'
      obtain ⟨bR, oR, hxR, hlR, _, f1, _, _, _⟩ := HE.out.iR.le hqn
      subst hxR
      have e1 := (HLW.out.be.cell (p := ⟨bR, oR + q * 5 + 1, none⟩) hlR).trans f1
      have hqI : (0 : Int) ≤ (q : Int) := by omega
      have hqJ : (q : Int) < (n : Int) := by omega
      have hIT := HT.out q hqn
      have hRq := HRT.out k hlt
      rw [HQ.out] at hRq
      have htl := (HSm.out q hqn).2.1
      have HEJ : Hid (endJ A T (natT fr) ⟨O, Lk la G, C⟩ (k + 1) = pstJ (fun l => (A l).ul) q (natT (T q)) (endJ A T (natT fr) ⟨O, Lk la G, C⟩ k) (A q).tl) := by
        show endJ A T (natT fr) ⟨O, Lk la G, C⟩ (k + 1) = _
        rw [endJ, HQ.out]
      revert hIT hRq htl HEJ
      generalize hta : (A q).ta = ta
      generalize htl' : (A q).tl = tl
      generalize htc : (A q).tc = tc
      rw [hta, htl', htc] at e1
      generalize hPk : endJ A T (natT fr) ⟨O, Lk la G, C⟩ k = Pk at HCD ⊢
      generalize hPs : pstJ (fun l => (A l).ul) q (natT (T q)) Pk = Ps
      intro hIT hRq htl HEJ
      have HPs : Hid (pstJ (fun l => (A l).ul) q (natT (T q)) Pk = Ps) := hPs
      have HIT := Hid.mk' hIT
      have HRq := Hid.mk' hRq
      clear hta htl' htc hPk hPs hIT hRq c0 c0' f1 r1 r2 hq
      have HCD1 : Hid (CD n G (Ps 0) O c d) := by rw [← HPs.out]; exact HCD
      clear HCD
      go_wp2
      go_loopg [34] tl (fun g i wr => ∃ (y : Nat) (c d : Nat → Int), y ≤ tl ∧ g = tl - y ∧ i = .int .i64 y ∧ LW w wr w.heap.size G aI c d ∧ CD n G (Ps y) O c d)
      case atStart => exact ⟨0, _, _, Nat.zero_le _, rfl, rfl, HLW.out, HCD1.out⟩
      case round =>
        clear HLW HCD1 e0 e1
        obtain ⟨y, c, d, hy, hg2, rfl, hLW, hCD⟩ := hrel
        have HLW := Hid.mk' hLW
        have HCD := Hid.mk' hCD
        by_cases hly : y < tl
        · obtain ⟨bT, oT, hxT, hlT, t0⟩ := HIT.out.le hly
          obtain ⟨s1, s2⟩ := HRq.out y hly
          obtain ⟨z, hz⟩ : ∃ z : Nat, T q y = z := ⟨(T q y).toNat, by omega⟩
          have hzG : z < G := by omega
          have HZ : Hid (natT (T q) y = z) := by show (T q y).toNat = z; omega
          obtain ⟨gi, hgi, hgi2, hgr⟩ : ∃ gi, aI = some ⟨gi, 0, none⟩ ∧ w.heap.size + 1 ≤ gi ∧ wr.rowIs gi 3 G (fun i => .int .i64 (d i)) := by
            rcases hLW.ix with ⟨_, h0⟩ | h
            · omega
            · exact h
          subst hxT
          subst hgi
          have x0 := cell_nat ((hLW.be.cell (p := ⟨bT, oT + y, none⟩) hlT).trans t0) hz
          have x1 := hLW.cn.cell hzG
          have x2 := hLW.cn.frozen z
          have zw := hLW.be.size
          have HL1 := Hid.mk' (hLW.setC z (wrap64 (c z + 1)))
          have HCD2 : Hid (CD n G (Ps (y + 1)) O (up c z (wrap64 (c z + 1))) (up d z (q : Int))) := by
            rw [← HPs.out, pstJ, HZ.out, HPs.out]; exact hCD.step _ hqn
          have y0 := cell_nat ((HL1.out.be.cell (p := ⟨bT, oT + y, none⟩) hlT).trans t0) hz
          have y1 := (HL1.out.be.cell (p := ⟨bF, oF + k, none⟩) hlF).trans HC0.out
          have hgr1 := hgr.setOther (a := ⟨w.heap.size, z, none⟩) (by show gi ≠ w.heap.size; omega) (.int .i64 (wrap64 (c z + 1)))
          have y2 := hgr1.cell hzG
          have y3 := hgr1.frozen z
          have zi := HL1.out.be.size
          clear hgr hgr1 hLW hCD HLW HCD t0 hz s1 s2
          go_wp2
          revert y0 y1 y2 y3 zi HL1
          generalize wr.setCell ⟨w.heap.size, z, none⟩ (.int .i64 (wrap64 (c z + 1))) = wa
          intro HL1 y0 y1 y2 y3 zi
          clear x0 x1 x2
          have lT : bT < wa.heap.size := by omega
          have lF : bF < wa.heap.size := by omega
          have nT : ¬ bT = gi := by omega
          have nF : ¬ bF = gi := by omega
          have HL1d : Hid (LW w wa.drew w.heap.size G (some ⟨gi, 0, none⟩) (up c z (wrap64 (c z + 1))) d) := ⟨HL1.out.cn, HL1.out.ix, HL1.out.be.drew, HL1.out.gz⟩
          have HL2 := Hid.mk' (HL1d.out.setI z (q : Int))
          go_region_held3 (fun w' => w'.cell? ⟨bT, oT + y, none⟩ = some (.int .i64 (z : Int)) ∧ w'.cell? ⟨bF, oF + k, none⟩ = some (.int .i64 (q : Int)))
            (first | exact keep2f ((Fr.refl (· = gi) wa).drew.setAt _ _) lT nT lF nF ⟨y0, y1⟩ | exact ⟨y0, y1⟩)
            (fail)
          clear HL1 HL1d y0 y1 y2 y3 lT lF nT nF
          go_wp2
          go_roundg (tl - (y + 1))
          case measure => omega
          case rel => exact ⟨y + 1, _, _, by omega, rfl, by go_num, HL2.out, HCD2.out⟩
        · have e : tl = y := by omega
          subst e
          clear hLW hCD
          go_wp2
          go_roundg (nf - (k + 1))
          case measure => omega
          case rel => exact ⟨k + 1, c, d, by omega, rfl, by go_num, HLW.out, by rw [HEJ.out]; exact HCD.out⟩
    · have e : nf = k := by omega
      subst e
      go_upto_if 199 with fail
      go_step
      go_step
      go_step
      go_step
      exact partB aR aF aB aL aE aK aI cR cB cE cK cI rb s ob lb n G m B nf ne nk mv rb2 w.heap.size co now linger j a a2 S A _ fr la va O c d ex ky w0 wr (HE.out.below HLW.out.be) HN.out
        ⟨HLW.out.cn, HLW.out.ix.isI, Hrt.out.of_block (HLW.out.be.block _ Hrt.out.lt), fun k hk => (Hr2.out k hk).below HLW.out.be⟩ HCD.out H1.out H2.out H4.out HJ.out (chain hb0 HLW.out.be)

end Go.Proofs.Qxb6619458a
