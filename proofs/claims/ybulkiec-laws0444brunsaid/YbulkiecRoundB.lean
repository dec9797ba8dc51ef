/-
  LawS0444BRun: a round of the second loop: a commit.
-/
import Derived.Test.YbulkiecLoops
namespace Go.Proofs.Ybulkiec
open Go.ChangeShapes Go.WideShapes Go.ChangeAt Go.RowKit
set_option linter.unusedVariables false
set_option linter.unusedSimpArgs false
attribute [local go_sem ↓] Go.wp_at_zero Go.wp_at_succ

set_option maxRecDepth 100000 in
set_option maxHeartbeats 0 in
theorem round_bad {w wr : World} {E : Env} {F : MEnv} {s : St} {mw : Nat → List (Nat × Nat)} {i : Nat} {u16 u24 : Value} {x0 x1 x2 x5 x10 x11 x12 x13 x14 x26 x27 x28 x29 x30 x31 x32 x33 x34 x35 x36 x37 x38 x39 x40 x41 x42 x43 x44 x45 x46 x47 x48 x49 x50 x51 x52 x53 x54 x55 x56 x57 x58 x59 x60 x61 x62 x63 x64 x65 x66 x67 x68 x69 x70 x71 x72 x73 x74 x75 x76 x77 x78 x79 x80 x81 x82 x83 x84 x85 x86 x87 x88 x89 x90 x91 x92 x93 x94 x95 x96 x97 x98 x99 x100 x101 x102 x103 x104 x105 x106 x107 x108 x109 x110 x111 x112 x113 x114 x115 x116 x117 x118 x119 x120 x121 x122 x123 x124 x125 x126 x127 x128 x129 x130 x131 x132 x133 x134 x135 x136 x137 x138 x139 x140 x141 x142 x143 x144 x145 x146 x147 x148 x149 x150 x151 x152 x153 x154 x155 x156 x157 x158 x159 x160 x161 x162 x163 x164 x165 x166 x167 x168 x169 x170 x171 x172 x173 x174 x175 x176 x177 x178 x179 x180 x181 x182 x183 x184 x185 x186 x187 x188 x189 x190 x191 x192 x193 x194 x195 x196 x197 x198 x199 x200 x201 x202 x203 x204 x205 x206 x207 x208 x209 x210 x211 x212 x213 x214 x215 x216 x217 x218 x219 x220 x221 x222 x223 x224 x225 x226 x227 x228 x229 x230 x231 x232 x233 x234 x235 x236 x237 x238 x239 x240 x241 x242 x243 x244 x245 x246 x247 x248 x249 x250 x251 x252 x253 x254 x255 x256 x257 x258 x259 x260 x261 x262 x263 x264 x265 x266 x267 x268 x269 x270 x271 x272 x273 x274 x275 x276 x277 x278 x279 x280 x281 x282 x283 x284 x285 x286 x287 x288 x289 x290 x291 x292 x293 x294 x295 x296 x297 x298 x299 x300 x301 x302 x303 x304 x305 x306 x307 x308 x309 x310 x311 x312 x313 x314 x315 x316 x317 x318 x319 x320 x321 x322 x323 x324 x325 x326 x327 x328 x329 x330 x331 x332 x333 x334 x335 x336 x337 x338 x339 x340 x341 x342 x343 x344 x345 x346 x347 x348 x349 x350 x351 x352 x353 x354 x355 x356 x357 x358 x359 x360 x361 x362 x363 x364 x365 x366 x367 x368 x369 x370 x371 x372 x373 x374 x375 x376 x377 x378 x379 x380 x381 x382 x383 x384 x385 x386 x387 x388 x389 x390 x391 x392 x393 x394 x395 x396 x397 x398 x399 x400 x401 x402 x403 x404 x405 x406 x407 x408 x409 x410 x411 x412 x413 x414 x415 x416 x417 x418 x419 x420 x421 x422 x423 x424 x425 x426 x427 x428 x429 x430 x431 x432 x433 x434 x435 x436 x437 x438 x439 x440 x441 x442 x443 x444 x445 x446 x447 x448 x449 x450 x451 x452 x453 x454 x455 x456 x457 x458 x459 x460 x461 x462 x463 x464 x465 x466 x467 x468 x469 x470 : Value} {K : Act → World → Prop} {Q : Exit → Act → World → Prop}
    (hl : Lay E) (hm : MLay E F) (hlt : i < E.n) (hLh : Lh w wr E F s (withW s mw) u16 u24) (hI : Inv E i s) (hW : WR i s mw) (hvt : s.victim (E.tx i) = false) (ha : E.ac i = 3) (hno : inval (beginSt (withW s mw) (E.tx i)).wr ((beginSt (withW s mw) (E.tx i)).began (E.tx i)) ((beginSt (withW s mw) (E.tx i)).reads (E.tx i)) ≠ none)
    (hK : ∀ (z16 z21 z24 z26 z27 z28 z29 z30 z32 z34 z35 z37 z38 z157 z158 z159 z160 z161 z162 z163 z164 z165 z166 z167 z168 z169 z170 z171 z172 z173 z174 z175 z176 z177 z178 z179 z180 z181 z182 z183 z184 z185 z186 z187 z188 z189 z190 z191 z192 z193 z194 z195 z196 z197 z198 z199 z200 z201 z202 z203 z204 z205 z206 z207 z208 z209 z210 z211 z212 z213 z214 z215 z216 z217 z218 z219 z220 z221 z222 z223 z224 z225 z226 z227 z228 z229 z230 z231 z232 z233 z234 z235 z236 z237 z238 z239 z240 z241 z242 z243 z244 z245 z246 z247 z248 z249 z250 z251 z252 z253 z254 z255 z256 z257 z258 z259 z260 z261 z262 z263 z264 z265 z266 z267 z268 z269 z270 z271 z272 z273 z274 z275 z276 z277 z278 z279 z280 z281 z282 z283 z284 z285 z286 z287 z288 z289 z290 z291 z292 z293 z294 z295 z296 z297 z298 z299 z300 z301 z302 z303 z304 z305 z306 z307 z308 z309 z310 z311 z312 z313 z314 z315 z316 z317 z318 z319 z320 z321 z322 z323 z324 z325 z326 z327 z328 z329 z330 z331 z332 z333 z334 z335 z336 z337 z338 z339 z340 z341 z342 z343 z344 z345 z346 z347 z348 z349 z350 z351 z352 z353 z354 z355 z356 z357 z358 z359 z360 z361 z362 z363 z364 : Value) (w' : World), z21 = .int .i64 ((subSt E s i).commits : Int) → Lh w w' E F (subSt E s i) (withW (subSt E s i) (nextMw E s mw i)) z16 z24 → K ⟨#[x0, x1, x2, Value.slice (some ⟨E.bn, 0, none⟩) 3 3, Value.slice (some ⟨E.bi, 0, none⟩) 3 3, x5, Value.int IntKind.i64 (E.n : Int), Value.pointer (some ⟨E.bs, 0, none⟩), Value.slice (some ⟨E.bt, 0, none⟩) E.n E.n, Value.slice (some ⟨E.bit, 0, none⟩) E.n E.n, x10, x11, x12, x13, x14, Value.pointer (some ⟨E.br, 0, none⟩), z16, Value.pointer (some ⟨F.mb, 0, none⟩), Value.pointer (some ⟨F.mr, 0, none⟩), Value.pointer (some ⟨F.ms, 0, none⟩), Value.pointer (some ⟨F.mw, 0, none⟩), z21, Value.pointer (some ⟨F.mv, 0, none⟩), Value.pointer (some ⟨F.me, 0, none⟩), z24, Value.int IntKind.i64 ((i : Int) + 1), z26, z27, z28, z29, z30, x31, z32, x33, z34, z35, x36, z37, z38, x39, x40, x41, x42, x43, x44, x45, x46, x47, x48, x49, x50, x51, x52, x53, x54, x55, x56, x57, x58, x59, x60, x61, x62, x63, x64, x65, x66, x67, x68, x69, x70, x71, x72, x73, x74, x75, x76, x77, x78, x79, x80, x81, x82, x83, x84, x85, x86, x87, x88, x89, x90, x91, x92, x93, x94, x95, x96, x97, x98, x99, x100, x101, x102, x103, x104, x105, x106, x107, x108, x109, x110, x111, x112, x113, x114, x115, x116, x117, x118, x119, x120, x121, x122, x123, x124, x125, x126, x127, x128, x129, x130, x131, x132, x133, x134, x135, x136, x137, x138, x139, x140, x141, x142, x143, x144, x145, x146, x147, x148, x149, x150, x151, x152, x153, x154, x155, x156, z157, z158, z159, z160, z161, z162, z163, z164, z165, z166, z167, z168, z169, z170, z171, z172, z173, z174, z175, z176, z177, z178, z179, z180, z181, z182, z183, z184, z185, z186, z187, z188, z189, z190, z191, z192, z193, z194, z195, z196, z197, z198, z199, z200, z201, z202, z203, z204, z205, z206, z207, z208, z209, z210, z211, z212, z213, z214, z215, z216, z217, z218, z219, z220, z221, z222, z223, z224, z225, z226, z227, z228, z229, z230, z231, z232, z233, z234, z235, z236, z237, z238, z239, z240, z241, z242, z243, z244, z245, z246, z247, z248, z249, z250, z251, z252, z253, z254, z255, z256, z257, z258, z259, z260, z261, z262, z263, z264, z265, z266, z267, z268, z269, z270, z271, z272, z273, z274, z275, z276, z277, z278, z279, z280, z281, z282, z283, z284, z285, z286, z287, z288, z289, z290, z291, z292, z293, z294, z295, z296, z297, z298, z299, z300, z301, z302, z303, z304, z305, z306, z307, z308, z309, z310, z311, z312, z313, z314, z315, z316, z317, z318, z319, z320, z321, z322, z323, z324, z325, z326, z327, z328, z329, z330, z331, z332, z333, z334, z335, z336, z337, z338, z339, z340, z341, z342, z343, z344, z345, z346, z347, z348, z349, z350, z351, z352, z353, z354, z355, z356, z357, z358, z359, z360, z361, z362, z363, z364, x365, x366, x367, x368, x369, x370, x371, x372, x373, x374, x375, x376, x377, x378, x379, x380, x381, x382, x383, x384, x385, x386, x387, x388, x389, x390, x391, x392, x393, x394, x395, x396, x397, x398, x399, x400, x401, x402, x403, x404, x405, x406, x407, x408, x409, x410, x411, x412, x413, x414, x415, x416, x417, x418, x419, x420, x421, x422, x423, x424, x425, x426, x427, x428, x429, x430, x431, x432, x433, x434, x435, x436, x437, x438, x439, x440, x441, x442, x443, x444, x445, x446, x447, x448, x449, x450, x451, x452, x453, x454, x455, x456, x457, x458, x459, x460, x461, x462, x463, x464, x465, x466, x467, x468, x469, x470], []⟩ w') :
    Code.wp Yba.prog (body2 Yba.f3) (Exit.then K Q) ⟨#[x0, x1, x2, Value.slice (some ⟨E.bn, 0, none⟩) 3 3, Value.slice (some ⟨E.bi, 0, none⟩) 3 3, x5, Value.int IntKind.i64 (E.n : Int), Value.pointer (some ⟨E.bs, 0, none⟩), Value.slice (some ⟨E.bt, 0, none⟩) E.n E.n, Value.slice (some ⟨E.bit, 0, none⟩) E.n E.n, x10, x11, x12, x13, x14, Value.pointer (some ⟨E.br, 0, none⟩), u16, Value.pointer (some ⟨F.mb, 0, none⟩), Value.pointer (some ⟨F.mr, 0, none⟩), Value.pointer (some ⟨F.ms, 0, none⟩), Value.pointer (some ⟨F.mw, 0, none⟩), Value.int IntKind.i64 (s.commits : Int), Value.pointer (some ⟨F.mv, 0, none⟩), Value.pointer (some ⟨F.me, 0, none⟩), u24, Value.int IntKind.i64 (i : Int), x26, x27, x28, x29, x30, x31, x32, x33, x34, x35, x36, x37, x38, x39, x40, x41, x42, x43, x44, x45, x46, x47, x48, x49, x50, x51, x52, x53, x54, x55, x56, x57, x58, x59, x60, x61, x62, x63, x64, x65, x66, x67, x68, x69, x70, x71, x72, x73, x74, x75, x76, x77, x78, x79, x80, x81, x82, x83, x84, x85, x86, x87, x88, x89, x90, x91, x92, x93, x94, x95, x96, x97, x98, x99, x100, x101, x102, x103, x104, x105, x106, x107, x108, x109, x110, x111, x112, x113, x114, x115, x116, x117, x118, x119, x120, x121, x122, x123, x124, x125, x126, x127, x128, x129, x130, x131, x132, x133, x134, x135, x136, x137, x138, x139, x140, x141, x142, x143, x144, x145, x146, x147, x148, x149, x150, x151, x152, x153, x154, x155, x156, x157, x158, x159, x160, x161, x162, x163, x164, x165, x166, x167, x168, x169, x170, x171, x172, x173, x174, x175, x176, x177, x178, x179, x180, x181, x182, x183, x184, x185, x186, x187, x188, x189, x190, x191, x192, x193, x194, x195, x196, x197, x198, x199, x200, x201, x202, x203, x204, x205, x206, x207, x208, x209, x210, x211, x212, x213, x214, x215, x216, x217, x218, x219, x220, x221, x222, x223, x224, x225, x226, x227, x228, x229, x230, x231, x232, x233, x234, x235, x236, x237, x238, x239, x240, x241, x242, x243, x244, x245, x246, x247, x248, x249, x250, x251, x252, x253, x254, x255, x256, x257, x258, x259, x260, x261, x262, x263, x264, x265, x266, x267, x268, x269, x270, x271, x272, x273, x274, x275, x276, x277, x278, x279, x280, x281, x282, x283, x284, x285, x286, x287, x288, x289, x290, x291, x292, x293, x294, x295, x296, x297, x298, x299, x300, x301, x302, x303, x304, x305, x306, x307, x308, x309, x310, x311, x312, x313, x314, x315, x316, x317, x318, x319, x320, x321, x322, x323, x324, x325, x326, x327, x328, x329, x330, x331, x332, x333, x334, x335, x336, x337, x338, x339, x340, x341, x342, x343, x344, x345, x346, x347, x348, x349, x350, x351, x352, x353, x354, x355, x356, x357, x358, x359, x360, x361, x362, x363, x364, x365, x366, x367, x368, x369, x370, x371, x372, x373, x374, x375, x376, x377, x378, x379, x380, x381, x382, x383, x384, x385, x386, x387, x388, x389, x390, x391, x392, x393, x394, x395, x396, x397, x398, x399, x400, x401, x402, x403, x404, x405, x406, x407, x408, x409, x410, x411, x412, x413, x414, x415, x416, x417, x418, x419, x420, x421, x422, x423, x424, x425, x426, x427, x428, x429, x430, x431, x432, x433, x434, x435, x436, x437, x438, x439, x440, x441, x442, x443, x444, x445, x446, x447, x448, x449, x450, x451, x452, x453, x454, x455, x456, x457, x458, x459, x460, x461, x462, x463, x464, x465, x466, x467, x468, x469, x470], []⟩ wr := by
  have HKK := hid hK
  clear hK
  have HA := hid ha
  have HNO := hid hno
  clear ha hno
  conv => arg 2; whnf
  obtain ⟨⟨V, U, hB, e0, e10⟩, hbel⟩ := hLh
  have ht := hl.tx i hlt
  have hti : (E.tx i : Int) < 3 := by omega
  have hii : (i : Int) < (E.n : Int) := by omega
  have hn300' := hl.n
  have hw1 : IntKind.i64.wrap ((i : Int) + 1) = (i : Int) + 1 := by rw [IntKind.wrap_i64]; omega
  have dt := hB.pm.fix.st.tx i hlt
  have dv : wr.cell? ⟨F.mv, E.tx i, none⟩ = some (.bool (s.victim (E.tx i))) := hB.mm.fix.vi.cell ht
  have HB := hid hB
  have HI := hid hI
  have HW := hid hW
  have HE0 := hid e0
  have HE10 := hid e10
  have HBE := hid hbel
  have hn300 := hl.n
  clear hB hI hW e0 e10 hbel
  rw [hvt] at dv
  replace hvt := hid hvt
  go_wp2_with fail
  refine (sub_run E s V i _ hl HB.out.pm HI.out hlt).mono ?_
  rintro r w1 ⟨rfl, V1, hp1, hs1⟩
  dsimp only
  have HL1 := hid (Lh.sub hl hm HB.out HE0.out HE10.out HBE.out hp1 hs1)
  have HI1 := hid (HI.out.sub hl hlt)
  have HW1 := hid (HW.out.sub hl HI.out hlt)
  have HG := hid (mgood HI.out HW.out (by omega) (E.tx i))
  obtain ⟨m1, HM1⟩ : ∃ m1, Hid (m1 = beginSt (withW s mw) (E.tx i)) := ⟨_, rfl⟩
  obtain ⟨hm1r, hm1w, hm1c, hm1e⟩ := begin_m1 s mw (E.tx i)
  rw [← HM1.out] at HG hm1r hm1w hm1c hm1e
  rw [← HM1.out] at HNO
  clear hp1 hs1 HB HE0 HE10 HBE dt dv hvt HI
  obtain ⟨hst, hcb, hfb, _, _, _, _⟩ := HL1.out.cells
  have d0 := hst.sc
  have p0 := hst.o0 i hlt
  have p1 := hst.o1 i hlt
  have p2 := hst.o2 i hlt
  have db : w1.cell? ⟨F.mb, E.tx i, none⟩ = some (.int .i64 (s.began (E.tx i))) := hcb _ ht
  have fb := hfb (E.tx i)
  have nb := cell_lt db
  have HMC := hid hm1c
  clear hst hcb hfb hm1r hm1w hm1e hm1c
  go_upto_if 182 with fail
  go_cut [] from 157 to 364 (fun wx => Lq w wx E F (subSt E s i) m1 u16 u24 w1.heap.size (.string (E.nm (E.tx i))) (.int .u8 (E.ac i)) (.string (E.it i)))
  case first =>
   as_aux_lemma =>
    by_cases hbg : s.began (E.tx i) < 0
    · have HBG := hid hbg
      have HL2 : Hid (Lq w ((w1.setCell ⟨F.mb, E.tx i, none⟩ (Value.int IntKind.i64 (s.commits : Int))).alloc (Obj.cells #[Value.string (E.nm (E.tx i)), Value.int IntKind.u8 (E.ac i), Value.string (E.it i)] 39)) E F (subSt E s i) m1 u16 u24 w1.heap.size (.string (E.nm (E.tx i))) (.int .u8 (E.ac i)) (.string (E.it i))) := by
        rw [HM1.out]; exact Lh.begin_neg hl hm HL1.out (E.tx i) hbg _ _ _
      go_wp2_with fail
      go_meet
      exact HL2.out
    · have HL2 : Hid (Lq w (w1.alloc (Obj.cells #[Value.string (E.nm (E.tx i)), Value.int IntKind.u8 (E.ac i), Value.string (E.it i)] 39)) E F (subSt E s i) m1 u16 u24 w1.heap.size (.string (E.nm (E.tx i))) (.int .u8 (E.ac i)) (.string (E.it i))) := by
        rw [HM1.out]; exact Lh.begin_pos hl hm HL1.out (E.tx i) hbg _ _ _
      go_wp2_with fail
      go_meet
      exact HL2.out
  case rest =>
    rename World => w2
    have HL2 := hid hcut
    clear hcut HL1 d0 p0 p1 p2 db fb nb
    generalize w1.heap.size = bx at *
    have k1 := HL2.out.c1
    have ha := HA.out
    obtain ⟨i0, hi0, hz0, hz1, hz2⟩ := info_parts Yba.info3
    obtain ⟨i6, hj0, hj1, hj2, hj3⟩ := info_parts Yba.info60
    have hlr := HG.out.rd (E.tx i)
    have hlw := HG.out.ws (E.tx i)
    have hev := HG.out.ev
    rw [ha] at k1 HL2
    replace ha := hid ha
    obtain ⟨i8, hk0, hk1, hk2, hk3⟩ := info_parts Yba.info68
    obtain ⟨ar, cr, dr, fr, _, hrow⟩ := HL2.out.rd ht
    clear hrow fr
    have hbd := HG.out.bg (E.tx i)
    go_upto_block 5 with fail
    refine loops5 hl hm ht HG.out HL2.out dr ?_
    intros
    rename_i hcut
    (try dsimp only)
    rename World => wq
    obtain ⟨hLq, hcut⟩ := hcut
    have HLq := hid hLq
    clear hLq HL2 dr k1
    obtain ⟨hiv, rfl, rfl, rfl⟩ | ⟨x, wt, hiv, rfl, rfl, rfl⟩ := hcut
    · replace hiv := hid hiv
      exact absurd hiv.out HNO.out
    · replace hiv := hid hiv
      obtain ⟨hx, hwt⟩ := inval_lt (fun x p hp => HG.out.wrt x p hp) _ (HG.out.rdx _) hiv.out
      have hxi : (x : Int) < 3 := by omega
      have hwti : (wt : Int) < 3 := by omega
      have dn := HLq.out.st.nm _ ht
      go_wp2_with fail
      have HL6 := hid (HLq.out.box hl hm (.string (E.nm (E.tx i))) (.int .u8 3) (.string ⟨#[]⟩) 39)
      clear HLq dn
      generalize wq.alloc (Obj.cells #[Value.string (E.nm (E.tx i)), Value.int IntKind.u8 3, Value.string ⟨#[]⟩] 39) = w6 at *
      generalize wq.heap.size = cx at *
      have HOE : Hid (w6.ownsRow F.base 60 12 u16 m1.ev.length (evs m1.ev)) := HL6.out.own_ev
      have k0 := HL6.out.c0
      have k1 := HL6.out.c1
      have k2 := HL6.out.c2
      have dx := HL6.out.st.im x hx
      have dw := HL6.out.st.nm wt hwt
      go_cut [16] from 157 to 364 (fun v7 wx => Lq w wx E F (subSt E s i) { m1 with ev := m1.ev ++ [ivEv ((i : Int) + 1) (E.nm (E.tx i)) (E.itn x) (E.nm wt)] } v7 u24 cx (.string (E.nm (E.tx i))) (.int .u8 3) (.string ⟨#[]⟩))
      case first =>
        go_region_held3 (fun w' => w'.cell? ⟨cx, 0, none⟩ = some (.string (E.nm (E.tx i))) ∧ w'.cell? ⟨cx, 1, none⟩ = some (.int .u8 3) ∧ w'.cell? ⟨cx, 2, none⟩ = some (.string ⟨#[]⟩) ∧ w'.cell? ⟨E.bi, x, none⟩ = some (.string (E.itn x)) ∧ w'.cell? ⟨E.bn, wt, none⟩ = some (.string (E.nm wt)))
          (first | exact ⟨q0, q1, q2, q3, q4⟩ | go_keep)
          (first | (refine step_append_lies _ rfl _ _ 40 rfl F.base 60 i6 _ 12 152 Yba.underlying40 hj0 hj1 hj2 hj3 rfl (by decide) _ _ (evs m1.ev) rfl (own_below HOE.out (by repeat (first | exact Below.refl _ _ | exact below_drewN (Below.refl _ _) _ | apply Below.drew | refine Below.alloc ?_ (by simp) _))) ⟨w6.heap.size, 0, none⟩ 1 1 (ivEv ((i : Int) + 1) (E.nm (E.tx i)) (E.itn x) (E.nm wt)).cells rfl rfl (news1 _ #[.int .u8 8, .int .u8 0, .int .i64 ((i : Int) + 1), .string (E.nm (E.tx i)), .int .u8 3, .string ⟨#[]⟩, .slice none 0 0, .slice none 0 0, .int .i64 0, .int .i64 0, .string (E.itn x), .string (E.nm wt)] 60 _ (by simp)) (ev_one _) (by decide) (by unfold maxLen; omega) (by omega) (by have hq := HL6.out.size; simp at hq ⊢; omega) (w6.heap.size + 1) (by simp) ?_; intro g7 cap7 w7 hown7 hg7 hat7 hlt7; have hL7 := HL6.out.put_ev hl hm (by repeat (first | exact Below.refl _ _ | exact below_drewN (Below.refl _ _) _ | apply Below.drew | refine Below.alloc ?_ (by simp) _)) (ivEv ((i : Int) + 1) (E.nm (E.tx i)) (E.itn x) (E.nm wt)) hown7 hg7 hat7 (by simp); have q0 := hL7.c0; have q1 := hL7.c1; have q2 := hL7.c2; have q3 := hL7.st.im x hx; have q4 := hL7.st.nm wt hwt; have HL7 := hid hL7; clear hL7 hown7 hg7 hat7 hlt7))
        all_goals (try go_wp2_with fail)
        all_goals go_meet
        all_goals exact HL7.out
      case rest =>
        rename World => w7
        rename Value => v7
        have hc7 := hid hcut
        clear hcut
        obtain ⟨m7, HM7⟩ : ∃ m7 : St, Hid (m7 = ({ m1 with ev := m1.ev ++ [ivEv ((i : Int) + 1) (E.nm (E.tx i)) (E.itn x) (E.nm wt)] } : St)) := ⟨_, rfl⟩
        have HL7 := hc7
        rw [← HM7.out] at HL7
        have hev7 : m7.ev.length ≤ 100001 := by rw [HM7.out]; show (m1.ev ++ [_]).length ≤ _; rw [List.length_append]; show m1.ev.length + 1 ≤ _; omega
        have hvs7 : m7.victims = m1.victims := by rw [HM7.out]
        have hlvs := HG.out.vs
        rw [← hvs7] at hlvs
        clear hvs7 HL6 HOE k0 k1 k2 dx dw hc7
        have HO7 := hid HL7.out.own_ev
        have dn := HL7.out.st.nm _ ht
        go_wp2_with (at_builtin; refine wpList_append_lies _ rfl _ _ 40 rfl F.base 60 i6 _ 12 152 Yba.underlying40 hj0 hj1 hj2 hj3 rfl (by decide) _ _ (evs m7.ev) rfl (HO7.out.alloc _) ⟨w7.heap.size, 0, none⟩ 1 1 (exEv 0 (E.nm (E.tx i)) 4 ⟨#[]⟩).cells rfl rfl (news1 _ #[.int .u8 1, .int .u8 0, .int .i64 0, .string (E.nm (E.tx i)), .int .u8 4, .string ⟨#[]⟩, .slice none 0 0, .slice none 0 0, .int .i64 0, .int .i64 0, .string ⟨#[]⟩, .string ⟨#[]⟩] 60 _ (by simp)) (ev_one _) (by decide) (by unfold maxLen; omega) (by omega) (by have hq := HL7.out.size; simp at hq ⊢; omega) (w7.heap.size + 1) (by simp) ?_)
        intro g8 cap8 w8 hown8 hg8 hat8 hlt8
        have HL8 : Hid (Lq w w8 E F (subSt E s i) _ (.slice (some ⟨g8, 0, none⟩) (m7.ev.length + 1) cap8) u24 cx _ _ _) := HL7.out.put_ev hl hm (by repeat (first | exact Below.refl _ _ | exact below_drewN (Below.refl _ _) _ | apply Below.drew | refine Below.alloc ?_ (by simp) _)) (exEv 0 (E.nm (E.tx i)) 4 ⟨#[]⟩) hown8 hg8 hat8 (by simp)
        clear hown8 hg8 hat8 hlt8 HL7 HO7 dn
        generalize Value.slice (some ⟨g8, 0, none⟩) (m7.ev.length + 1) cap8 = v8 at *
        have dvi := HL8.out.fix.2.2.1 _ ht
        have fvi := HL8.out.fix.2.2.2.1 (E.tx i)
        have HL9 := hid (HL8.out.set_vi hl hm (E.tx i) true)
        have HOV : Hid ((w8.setCell ⟨F.mv, E.tx i, none⟩ (.bool true)).ownsRow F.base 3 1 u24 m7.victims.length (ints m7.victims)) := HL9.out.own_vs
        go_wp2_with (at_builtin; refine wpList_append_lies _ rfl _ _ 28 rfl F.base 3 i0 (.int .i64 0) 1 8 Yba.underlying28 hi0 hz0 hz1 hz2 rfl (by decide) _ _ (ints m7.victims) rfl (HOV.out.alloc _) ⟨w8.heap.size, 0, none⟩ 1 1 [.int .i64 (E.tx i : Int)] rfl rfl (news1 _ #[.int .i64 (E.tx i : Int)] 3 _ (by simp)) (ints_oneCell .i64 [(E.tx i : Int)]) (by decide) (by unfold maxLen; omega) (by omega) (by have hq := HL9.out.size; simp at hq ⊢; omega) (w8.heap.size + 1) (by simp) ?_)
        intro g9 cap9 w9 hown9 hg9 hat9 hlt9
        have HLa : Hid (Lq w w9 E F (subSt E s i) _ v8 (.slice (some ⟨g9, 0, none⟩) (m7.victims.length + 1) cap9) cx _ _ _) := HL9.out.put_vs hl hm (by repeat (first | exact Below.refl _ _ | exact below_drewN (Below.refl _ _) _ | apply Below.drew | refine Below.alloc ?_ (by simp) _)) (E.tx i) hown9 hg9 hat9 (by simp)
        clear hown9 hg9 hat9 hlt9 HL8 HL9 HOV dvi fvi
        generalize Value.slice (some ⟨g9, 0, none⟩) (m7.victims.length + 1) cap9 = v24 at *
        have hfx := HLa.out.fix
        have de := hfx.2.2.2.2.1 _ ht
        have fe := hfx.2.2.2.2.2 (E.tx i)
        have db := hfx.1 _ ht
        have fb := hfx.2.1 (E.tx i)
        obtain ⟨z1, z2, dr, fr, _, _⟩ := HLa.out.rd ht
        obtain ⟨z3, z4, ds, fs, _, _⟩ := HLa.out.ws ht
        clear hfx
        have nbe : F.mb ≠ F.me := by obtain ⟨k0, k1, k2, k3, k4, k5, k6⟩ := hm; omega
        have nre : F.mr ≠ F.me := by obtain ⟨k0, k1, k2, k3, k4, k5, k6⟩ := hm; omega
        have nse : F.ms ≠ F.me := by obtain ⟨k0, k1, k2, k3, k4, k5, k6⟩ := hm; omega
        have nrb : F.mr ≠ F.mb := by obtain ⟨k0, k1, k2, k3, k4, k5, k6⟩ := hm; omega
        have nsb : F.ms ≠ F.mb := by obtain ⟨k0, k1, k2, k3, k4, k5, k6⟩ := hm; omega
        have nsr : F.ms ≠ F.mr := by obtain ⟨k0, k1, k2, k3, k4, k5, k6⟩ := hm; omega
        go_wp2
        have hM := model_bad (s := s) (mw := mw) HW.out ha.out (by rw [← HM1.out]; exact hiv.out)
        rw [← HM1.out] at hM
        have hM7 := HM7.out
        subst hM7
        apply HKK.out
        · rw [com_of hM (c := s.commits) HMC.out]
        · rw [← hM]
          exact ((((HLa.out.set_en hl hm (E.tx i) true).set_bg hl hm (E.tx i) (-1)).nil_rd hl hm (E.tx i) ht).nil_ws hl hm (E.tx i) ht).head
end Go.Proofs.Ybulkiec
