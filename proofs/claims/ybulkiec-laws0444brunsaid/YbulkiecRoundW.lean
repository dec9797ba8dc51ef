/-
  LawS0444BRun: a round of the second loop: a write.
-/
import Derived.Test.YbulkiecBody
namespace Go.Proofs.Ybulkiec
open Go.ChangeShapes Go.WideShapes Go.ChangeAt Go.RowKit
set_option linter.unusedVariables false
set_option linter.unusedSimpArgs false
attribute [local go_sem ↓] Go.wp_at_zero Go.wp_at_succ

set_option maxRecDepth 100000 in
set_option maxHeartbeats 0 in
theorem round_write {w wr : World} {E : Env} {F : MEnv} {s : St} {mw : Nat → List (Nat × Nat)} {i : Nat} {u16 u24 : Value} {x0 x1 x2 x5 x10 x11 x12 x13 x14 x26 x27 x28 x29 x30 x31 x32 x33 x34 x35 x36 x37 x38 x39 x40 x41 x42 x43 x44 x45 x46 x47 x48 x49 x50 x51 x52 x53 x54 x55 x56 x57 x58 x59 x60 x61 x62 x63 x64 x65 x66 x67 x68 x69 x70 x71 x72 x73 x74 x75 x76 x77 x78 x79 x80 x81 x82 x83 x84 x85 x86 x87 x88 x89 x90 x91 x92 x93 x94 x95 x96 x97 x98 x99 x100 x101 x102 x103 x104 x105 x106 x107 x108 x109 x110 x111 x112 x113 x114 x115 x116 x117 x118 x119 x120 x121 x122 x123 x124 x125 x126 x127 x128 x129 x130 x131 x132 x133 x134 x135 x136 x137 x138 x139 x140 x141 x142 x143 x144 x145 x146 x147 x148 x149 x150 x151 x152 x153 x154 x155 x156 x157 x158 x159 x160 x161 x162 x163 x164 x165 x166 x167 x168 x169 x170 x171 x172 x173 x174 x175 x176 x177 x178 x179 x180 x181 x182 x183 x184 x185 x186 x187 x188 x189 x190 x191 x192 x193 x194 x195 x196 x197 x198 x199 x200 x201 x202 x203 x204 x205 x206 x207 x208 x209 x210 x211 x212 x213 x214 x215 x216 x217 x218 x219 x220 x221 x222 x223 x224 x225 x226 x227 x228 x229 x230 x231 x232 x233 x234 x235 x236 x237 x238 x239 x240 x241 x242 x243 x244 x245 x246 x247 x248 x249 x250 x251 x252 x253 x254 x255 x256 x257 x258 x259 x260 x261 x262 x263 x264 x265 x266 x267 x268 x269 x270 x271 x272 x273 x274 x275 x276 x277 x278 x279 x280 x281 x282 x283 x284 x285 x286 x287 x288 x289 x290 x291 x292 x293 x294 x295 x296 x297 x298 x299 x300 x301 x302 x303 x304 x305 x306 x307 x308 x309 x310 x311 x312 x313 x314 x315 x316 x317 x318 x319 x320 x321 x322 x323 x324 x325 x326 x327 x328 x329 x330 x331 x332 x333 x334 x335 x336 x337 x338 x339 x340 x341 x342 x343 x344 x345 x346 x347 x348 x349 x350 x351 x352 x353 x354 x355 x356 x357 x358 x359 x360 x361 x362 x363 x364 x365 x366 x367 x368 x369 x370 x371 x372 x373 x374 x375 x376 x377 x378 x379 x380 x381 x382 x383 x384 x385 x386 x387 x388 x389 x390 x391 x392 x393 x394 x395 x396 x397 x398 x399 x400 x401 x402 x403 x404 x405 x406 x407 x408 x409 x410 x411 x412 x413 x414 x415 x416 x417 x418 x419 x420 x421 x422 x423 x424 x425 x426 x427 x428 x429 x430 x431 x432 x433 x434 x435 x436 x437 x438 x439 x440 x441 x442 x443 x444 x445 x446 x447 x448 x449 x450 x451 x452 x453 x454 x455 x456 x457 x458 x459 x460 x461 x462 x463 x464 x465 x466 x467 x468 x469 x470 : Value} {K : Act → World → Prop} {Q : Exit → Act → World → Prop}
    (hl : Lay E) (hm : MLay E F) (hlt : i < E.n) (hLh : Lh w wr E F s (withW s mw) u16 u24) (hI : Inv E i s) (hW : WR i s mw) (hvt : s.victim (E.tx i) = false) (ha : E.ac i = 2)
    (hK : ∀ (z16 z21 z24 z26 z27 z28 z29 z30 z32 z34 z35 z37 z38 z157 z158 z159 z160 z161 z162 z163 z164 z165 z166 z167 z168 z169 z170 z171 z172 z173 z174 z175 z176 z177 z178 z179 z180 z181 z182 z183 z184 z185 z186 z187 z188 z189 z190 z191 z192 z193 z194 z195 z196 z197 z198 z199 z200 z201 z202 z203 z204 z205 z206 z207 z208 z209 z210 z211 z212 z213 z214 z215 z216 z217 z218 z219 z220 z221 z222 z223 z224 z225 z226 z227 z228 z229 z230 z231 z232 z233 z234 z235 z236 z237 z238 z239 z240 z241 z242 z243 z244 z245 z246 z247 z248 z249 z250 z251 z252 z253 z254 z255 z256 z257 z258 z259 z260 z261 z262 z263 z264 z265 z266 z267 z268 z269 z270 z271 z272 z273 z274 z275 z276 z277 z278 z279 z280 z281 z282 z283 z284 z285 z286 z287 z288 z289 z290 z291 z292 z293 z294 z295 z296 z297 z298 z299 z300 z301 z302 z303 z304 z305 z306 z307 z308 z309 z310 z311 z312 z313 z314 z315 z316 z317 z318 z319 z320 z321 z322 z323 z324 z325 z326 z327 z328 z329 z330 z331 z332 z333 z334 z335 z336 z337 z338 z339 z340 z341 z342 z343 z344 z345 z346 z347 z348 z349 z350 z351 z352 z353 z354 z355 z356 z357 z358 z359 z360 z361 z362 z363 z364 : Value) (w' : World), z21 = .int .i64 ((subSt E s i).commits : Int) → Lh w w' E F (subSt E s i) (withW (subSt E s i) (nextMw E s mw i)) z16 z24 → K ⟨#[x0, x1, x2, Value.slice (some ⟨E.bn, 0, none⟩) 3 3, Value.slice (some ⟨E.bi, 0, none⟩) 3 3, x5, Value.int IntKind.i64 (E.n : Int), Value.pointer (some ⟨E.bs, 0, none⟩), Value.slice (some ⟨E.bt, 0, none⟩) E.n E.n, Value.slice (some ⟨E.bit, 0, none⟩) E.n E.n, x10, x11, x12, x13, x14, Value.pointer (some ⟨E.br, 0, none⟩), z16, Value.pointer (some ⟨F.mb, 0, none⟩), Value.pointer (some ⟨F.mr, 0, none⟩), Value.pointer (some ⟨F.ms, 0, none⟩), Value.pointer (some ⟨F.mw, 0, none⟩), z21, Value.pointer (some ⟨F.mv, 0, none⟩), Value.pointer (some ⟨F.me, 0, none⟩), z24, Value.int IntKind.i64 ((i : Int) + 1), z26, z27, z28, z29, z30, x31, z32, x33, z34, z35, x36, z37, z38, x39, x40, x41, x42, x43, x44, x45, x46, x47, x48, x49, x50, x51, x52, x53, x54, x55, x56, x57, x58, x59, x60, x61, x62, x63, x64, x65, x66, x67, x68, x69, x70, x71, x72, x73, x74, x75, x76, x77, x78, x79, x80, x81, x82, x83, x84, x85, x86, x87, x88, x89, x90, x91, x92, x93, x94, x95, x96, x97, x98, x99, x100, x101, x102, x103, x104, x105, x106, x107, x108, x109, x110, x111, x112, x113, x114, x115, x116, x117, x118, x119, x120, x121, x122, x123, x124, x125, x126, x127, x128, x129, x130, x131, x132, x133, x134, x135, x136, x137, x138, x139, x140, x141, x142, x143, x144, x145, x146, x147, x148, x149, x150, x151, x152, x153, x154, x155, x156, z157, z158, z159, z160, z161, z162, z163, z164, z165, z166, z167, z168, z169, z170, z171, z172, z173, z174, z175, z176, z177, z178, z179, z180, z181, z182, z183, z184, z185, z186, z187, z188, z189, z190, z191, z192, z193, z194, z195, z196, z197, z198, z199, z200, z201, z202, z203, z204, z205, z206, z207, z208, z209, z210, z211, z212, z213, z214, z215, z216, z217, z218, z219, z220, z221, z222, z223, z224, z225, z226, z227, z228, z229, z230, z231, z232, z233, z234, z235, z236, z237, z238, z239, z240, z241, z242, z243, z244, z245, z246, z247, z248, z249, z250, z251, z252, z253, z254, z255, z256, z257, z258, z259, z260, z261, z262, z263, z264, z265, z266, z267, z268, z269, z270, z271, z272, z273, z274, z275, z276, z277, z278, z279, z280, z281, z282, z283, z284, z285, z286, z287, z288, z289, z290, z291, z292, z293, z294, z295, z296, z297, z298, z299, z300, z301, z302, z303, z304, z305, z306, z307, z308, z309, z310, z311, z312, z313, z314, z315, z316, z317, z318, z319, z320, z321, z322, z323, z324, z325, z326, z327, z328, z329, z330, z331, z332, z333, z334, z335, z336, z337, z338, z339, z340, z341, z342, z343, z344, z345, z346, z347, z348, z349, z350, z351, z352, z353, z354, z355, z356, z357, z358, z359, z360, z361, z362, z363, z364, x365, x366, x367, x368, x369, x370, x371, x372, x373, x374, x375, x376, x377, x378, x379, x380, x381, x382, x383, x384, x385, x386, x387, x388, x389, x390, x391, x392, x393, x394, x395, x396, x397, x398, x399, x400, x401, x402, x403, x404, x405, x406, x407, x408, x409, x410, x411, x412, x413, x414, x415, x416, x417, x418, x419, x420, x421, x422, x423, x424, x425, x426, x427, x428, x429, x430, x431, x432, x433, x434, x435, x436, x437, x438, x439, x440, x441, x442, x443, x444, x445, x446, x447, x448, x449, x450, x451, x452, x453, x454, x455, x456, x457, x458, x459, x460, x461, x462, x463, x464, x465, x466, x467, x468, x469, x470], []⟩ w') :
    Code.wp Yba.prog (body2 Yba.f3) (Exit.then K Q) ⟨#[x0, x1, x2, Value.slice (some ⟨E.bn, 0, none⟩) 3 3, Value.slice (some ⟨E.bi, 0, none⟩) 3 3, x5, Value.int IntKind.i64 (E.n : Int), Value.pointer (some ⟨E.bs, 0, none⟩), Value.slice (some ⟨E.bt, 0, none⟩) E.n E.n, Value.slice (some ⟨E.bit, 0, none⟩) E.n E.n, x10, x11, x12, x13, x14, Value.pointer (some ⟨E.br, 0, none⟩), u16, Value.pointer (some ⟨F.mb, 0, none⟩), Value.pointer (some ⟨F.mr, 0, none⟩), Value.pointer (some ⟨F.ms, 0, none⟩), Value.pointer (some ⟨F.mw, 0, none⟩), Value.int IntKind.i64 (s.commits : Int), Value.pointer (some ⟨F.mv, 0, none⟩), Value.pointer (some ⟨F.me, 0, none⟩), u24, Value.int IntKind.i64 (i : Int), x26, x27, x28, x29, x30, x31, x32, x33, x34, x35, x36, x37, x38, x39, x40, x41, x42, x43, x44, x45, x46, x47, x48, x49, x50, x51, x52, x53, x54, x55, x56, x57, x58, x59, x60, x61, x62, x63, x64, x65, x66, x67, x68, x69, x70, x71, x72, x73, x74, x75, x76, x77, x78, x79, x80, x81, x82, x83, x84, x85, x86, x87, x88, x89, x90, x91, x92, x93, x94, x95, x96, x97, x98, x99, x100, x101, x102, x103, x104, x105, x106, x107, x108, x109, x110, x111, x112, x113, x114, x115, x116, x117, x118, x119, x120, x121, x122, x123, x124, x125, x126, x127, x128, x129, x130, x131, x132, x133, x134, x135, x136, x137, x138, x139, x140, x141, x142, x143, x144, x145, x146, x147, x148, x149, x150, x151, x152, x153, x154, x155, x156, x157, x158, x159, x160, x161, x162, x163, x164, x165, x166, x167, x168, x169, x170, x171, x172, x173, x174, x175, x176, x177, x178, x179, x180, x181, x182, x183, x184, x185, x186, x187, x188, x189, x190, x191, x192, x193, x194, x195, x196, x197, x198, x199, x200, x201, x202, x203, x204, x205, x206, x207, x208, x209, x210, x211, x212, x213, x214, x215, x216, x217, x218, x219, x220, x221, x222, x223, x224, x225, x226, x227, x228, x229, x230, x231, x232, x233, x234, x235, x236, x237, x238, x239, x240, x241, x242, x243, x244, x245, x246, x247, x248, x249, x250, x251, x252, x253, x254, x255, x256, x257, x258, x259, x260, x261, x262, x263, x264, x265, x266, x267, x268, x269, x270, x271, x272, x273, x274, x275, x276, x277, x278, x279, x280, x281, x282, x283, x284, x285, x286, x287, x288, x289, x290, x291, x292, x293, x294, x295, x296, x297, x298, x299, x300, x301, x302, x303, x304, x305, x306, x307, x308, x309, x310, x311, x312, x313, x314, x315, x316, x317, x318, x319, x320, x321, x322, x323, x324, x325, x326, x327, x328, x329, x330, x331, x332, x333, x334, x335, x336, x337, x338, x339, x340, x341, x342, x343, x344, x345, x346, x347, x348, x349, x350, x351, x352, x353, x354, x355, x356, x357, x358, x359, x360, x361, x362, x363, x364, x365, x366, x367, x368, x369, x370, x371, x372, x373, x374, x375, x376, x377, x378, x379, x380, x381, x382, x383, x384, x385, x386, x387, x388, x389, x390, x391, x392, x393, x394, x395, x396, x397, x398, x399, x400, x401, x402, x403, x404, x405, x406, x407, x408, x409, x410, x411, x412, x413, x414, x415, x416, x417, x418, x419, x420, x421, x422, x423, x424, x425, x426, x427, x428, x429, x430, x431, x432, x433, x434, x435, x436, x437, x438, x439, x440, x441, x442, x443, x444, x445, x446, x447, x448, x449, x450, x451, x452, x453, x454, x455, x456, x457, x458, x459, x460, x461, x462, x463, x464, x465, x466, x467, x468, x469, x470], []⟩ wr := by
  have HKK := hid hK
  clear hK
  have HA := hid ha
  clear ha
  conv => arg 2; whnf
  obtain ⟨⟨V, U, hB, e0, e10⟩, hbel⟩ := hLh
  have ht := hl.tx i hlt
  have hti : (E.tx i : Int) < 3 := by omega
  have hii : (i : Int) < (E.n : Int) := by omega
  have hn300' := hl.n
  have hw1 : IntKind.i64.wrap ((i : Int) + 1) = (i : Int) + 1 := by rw [IntKind.wrap_i64]; omega
  have dt := hB.pm.fix.st.tx i hlt
  have dv : wr.cell? ⟨F.mv, E.tx i, none⟩ = some (.bool (s.victim (E.tx i))) := hB.mm.fix.vi.cell ht
  have HB := hid hB
  have HI := hid hI
  have HW := hid hW
  have HE0 := hid e0
  have HE10 := hid e10
  have HBE := hid hbel
  have hn300 := hl.n
  clear hB hI hW e0 e10 hbel
  rw [hvt] at dv
  replace hvt := hid hvt
  go_wp2_with fail
  refine (sub_run E s V i _ hl HB.out.pm HI.out hlt).mono ?_
  rintro r w1 ⟨rfl, V1, hp1, hs1⟩
  dsimp only
  have HL1 := hid (Lh.sub hl hm HB.out HE0.out HE10.out HBE.out hp1 hs1)
  have HI1 := hid (HI.out.sub hl hlt)
  have HW1 := hid (HW.out.sub hl HI.out hlt)
  have HG := hid (mgood HI.out HW.out (by omega) (E.tx i))
  obtain ⟨m1, HM1⟩ : ∃ m1, Hid (m1 = beginSt (withW s mw) (E.tx i)) := ⟨_, rfl⟩
  obtain ⟨hm1r, hm1w, hm1c, hm1e⟩ := begin_m1 s mw (E.tx i)
  rw [← HM1.out] at HG hm1r hm1w hm1c hm1e
  clear hp1 hs1 HB HE0 HE10 HBE dt dv hvt HI
  obtain ⟨hst, hcb, hfb, hcr, hfr, hcs, hfs⟩ := HL1.out.cells
  have d0 := hst.sc
  have p0 := hst.o0 i hlt
  have p1 := hst.o1 i hlt
  have p2 := hst.o2 i hlt
  have dI := hst.io i hlt
  have db : w1.cell? ⟨F.mb, E.tx i, none⟩ = some (.int .i64 (s.began (E.tx i))) := hcb _ ht
  have fb := hfb (E.tx i)
  have nb := cell_lt db
  obtain ⟨ar, cr, dr⟩ : ∃ ao cap, w1.cell? ⟨F.mr, E.tx i, none⟩ = some (.slice ao (m1.reads (E.tx i)).length cap) := by rw [hm1r]; exact hcr _ ht
  have fr := hfr (E.tx i)
  have nr := cell_lt dr
  obtain ⟨aS, cS, ds⟩ : ∃ ao cap, w1.cell? ⟨F.ms, E.tx i, none⟩ = some (.slice ao (m1.ws (E.tx i)).length cap) := by rw [hm1w]; exact hcs _ ht
  have fs := hfs (E.tx i)
  have ns := cell_lt ds
  have nbr : F.mb ≠ F.mr := by obtain ⟨k0, k1, k2, k3, k4, k5, k6⟩ := hm; omega
  have nbs : F.mb ≠ F.ms := by obtain ⟨k0, k1, k2, k3, k4, k5, k6⟩ := hm; omega
  have nrs : F.mr ≠ F.ms := by obtain ⟨k0, k1, k2, k3, k4, k5, k6⟩ := hm; omega
  have nrb := nbr.symm
  have nsb := nbs.symm
  have nsr := nrs.symm
  have HMC := hid hm1c
  clear hst hcb hfb hcr hfr hcs hfs hm1r hm1w hm1e hm1c
  have ha := HA.out
  by_cases hbg : s.began (E.tx i) < 0
  · rw [ha] at p1
    replace ha := hid ha
    have HBG := hid hbg
    obtain ⟨i0, hi0, hz0, hz1, hz2⟩ := info_parts Yba.info3
    obtain ⟨i6, hj0, hj1, hj2, hj3⟩ := info_parts Yba.info60
    have hlr := HG.out.rd (E.tx i)
    have hlw := HG.out.ws (E.tx i)
    have hev := HG.out.ev
    have HL2 : Hid (Lq w ((w1.setCell ⟨F.mb, E.tx i, none⟩ (Value.int IntKind.i64 (s.commits : Int))).alloc (Obj.cells #[Value.string (E.nm (E.tx i)), Value.int IntKind.u8 2, Value.string (E.it i)] 39)) E F (subSt E s i) m1 u16 u24 w1.heap.size (.string (E.nm (E.tx i))) (.int .u8 2) (.string (E.it i))) := by
      rw [HM1.out]; exact Lh.begin_neg hl hm HL1.out (E.tx i) (by have := HBG.out; show s.began (E.tx i) < 0; omega) _ _ _
    have hc2 : ((w1.setCell ⟨F.mb, E.tx i, none⟩ (Value.int IntKind.i64 (s.commits : Int))).alloc (Obj.cells #[Value.string (E.nm (E.tx i)), Value.int IntKind.u8 2, Value.string (E.it i)] 39)).cell? ⟨F.ms, E.tx i, none⟩ = some (.slice aS (m1.ws (E.tx i)).length cS) := ((((Kept.refl (fun b => b = F.mb) w1).trans (Kept.setCell (p := fun b => b = F.mb) rfl _)).alloc _).cell ds nsb)
    have HC2 := hid hc2
    have HOWN := hid (HL2.out.ws_at ht hc2)
    clear hc2
    go_wp2_with (at_builtin; refine wpList_append_lies _ rfl _ _ 28 rfl F.base 3 i0 (.int .i64 0) 1 8 Yba.underlying28 hi0 hz0 hz1 hz2 rfl (by decide) _ _ (ints (m1.ws (E.tx i))) rfl (HOWN.out.alloc _) ⟨w1.heap.size + 1, 0, none⟩ 1 1 [.int .i64 (i : Int)] rfl rfl (news1 _ #[.int .i64 (i : Int)] 3 _ (by simp)) (ints_oneCell .i64 [(i : Int)]) (by decide) (by unfold maxLen; omega) (by omega) (by have hq := HL2.out.size; simp at hq ⊢; omega) (w1.heap.size + 1 + 1) (by simp) ?_)
    intro g2 cap2 w3 hown2 hg2 hat2 hlt3
    obtain ⟨hL3, c3, f3⟩ := HL2.out.put_ws hl hm (by repeat (first | exact Below.refl _ _ | exact below_drewN (Below.refl _ _) _ | apply Below.drew | refine Below.alloc ?_ (by simp) _)) ht HC2.out i hown2 hg2 hat2 (by simp)
    have HL3 := hid hL3
    have hnx := HL3.out.nbx hm
    have nx := hnx.2.2.1
    have k0 := unset_far HL3.out.c0 nx
    have k1 := unset_far HL3.out.c1 nx
    have k2 := unset_far HL3.out.c2 nx
    have HOE : Hid ((w3.setCell ⟨F.ms, E.tx i, none⟩ (.slice (some ⟨g2, 0, none⟩) ((m1.ws (E.tx i)).length + 1) cap2)).ownsRow F.base 60 12 u16 m1.ev.length (evs m1.ev)) := HL3.out.own_ev
    clear hL3 hown2 hg2 hat2 hlt3 hnx HL1 d0 p0 p1 p2 dI db fb nb dr fr nr ds fs ns nbr nbs nrs nrb nsb nsr hbg HL2 HC2 HOWN
    generalize w1.heap.size = bx at *
    have bw3 := cell_lt k0
    go_wp2_with (at_builtin; refine wpList_append_lies _ rfl _ _ 40 rfl F.base 60 i6 _ 12 152 Yba.underlying40 hj0 hj1 hj2 hj3 rfl (by decide) _ _ (evs m1.ev) rfl (HOE.out.alloc _) ⟨w3.heap.size, 0, none⟩ 1 1 (dfEv ((i : Int) + 1) (E.nm (E.tx i)) 2 (E.it i)).cells rfl rfl (news1 _ #[.int .u8 7, .int .u8 0, .int .i64 ((i : Int) + 1), .string (E.nm (E.tx i)), .int .u8 2, .string (E.it i), .slice none 0 0, .slice none 0 0, .int .i64 0, .int .i64 0, .string ⟨#[]⟩, .string ⟨#[]⟩] 60 _ (by simp)) (ev_one _) (by decide) (by unfold maxLen; omega) (by omega) (by have hq := HL3.out.size; simp at hq ⊢; omega) (w3.heap.size + 1) (by simp) ?_)
    intro g4 cap4 w5 hown4 hg4 hat4 hlt4
    have HL5 : Hid (Lq w w5 E F (subSt E s i) _ (.slice (some ⟨g4, 0, none⟩) (m1.ev.length + 1) cap4) u24 bx _ _ _) := HL3.out.put_ev hl hm (by repeat (first | exact Below.refl _ _ | exact below_drewN (Below.refl _ _) _ | apply Below.drew | refine Below.alloc ?_ (by simp) _)) (dfEv ((i : Int) + 1) (E.nm (E.tx i)) 2 (E.it i)) hown4 hg4 hat4 (by simp)
    clear hown4 hg4 hat4 hlt4 HL3 HOE k0 k1 k2 c3 f3
    generalize Value.slice (some ⟨g4, 0, none⟩) (m1.ev.length + 1) cap4 = v16 at *
    have de := HL5.out.fix.2.2.2.2.1 _ ht
    have fe := HL5.out.fix.2.2.2.2.2 (E.tx i)
    go_wp2
    have hM := model_wt (s := s) (mw := mw) ha.out
    rw [← HM1.out] at hM
    apply HKK.out
    · rw [com_of hM (c := s.commits) HMC.out]
    · rw [← hM]
      exact (HL5.out.set_en hl hm (E.tx i) false).head
  · rw [ha] at p1
    replace ha := hid ha
    have HBG := hid hbg
    obtain ⟨i0, hi0, hz0, hz1, hz2⟩ := info_parts Yba.info3
    obtain ⟨i6, hj0, hj1, hj2, hj3⟩ := info_parts Yba.info60
    have hlr := HG.out.rd (E.tx i)
    have hlw := HG.out.ws (E.tx i)
    have hev := HG.out.ev
    have HL2 : Hid (Lq w (w1.alloc (Obj.cells #[Value.string (E.nm (E.tx i)), Value.int IntKind.u8 2, Value.string (E.it i)] 39)) E F (subSt E s i) m1 u16 u24 w1.heap.size (.string (E.nm (E.tx i))) (.int .u8 2) (.string (E.it i))) := by
      rw [HM1.out]; exact Lh.begin_pos hl hm HL1.out (E.tx i) (by have := HBG.out; show ¬ s.began (E.tx i) < 0; omega) _ _ _
    have hc2 : (w1.alloc (Obj.cells #[Value.string (E.nm (E.tx i)), Value.int IntKind.u8 2, Value.string (E.it i)] 39)).cell? ⟨F.ms, E.tx i, none⟩ = some (.slice aS (m1.ws (E.tx i)).length cS) := (((Kept.refl (fun _ => False) w1).alloc _).cell ds id)
    have HC2 := hid hc2
    have HOWN := hid (HL2.out.ws_at ht hc2)
    clear hc2
    go_wp2_with (at_builtin; refine wpList_append_lies _ rfl _ _ 28 rfl F.base 3 i0 (.int .i64 0) 1 8 Yba.underlying28 hi0 hz0 hz1 hz2 rfl (by decide) _ _ (ints (m1.ws (E.tx i))) rfl (HOWN.out.alloc _) ⟨w1.heap.size + 1, 0, none⟩ 1 1 [.int .i64 (i : Int)] rfl rfl (news1 _ #[.int .i64 (i : Int)] 3 _ (by simp)) (ints_oneCell .i64 [(i : Int)]) (by decide) (by unfold maxLen; omega) (by omega) (by have hq := HL2.out.size; simp at hq ⊢; omega) (w1.heap.size + 1 + 1) (by simp) ?_)
    intro g2 cap2 w3 hown2 hg2 hat2 hlt3
    obtain ⟨hL3, c3, f3⟩ := HL2.out.put_ws hl hm (by repeat (first | exact Below.refl _ _ | exact below_drewN (Below.refl _ _) _ | apply Below.drew | refine Below.alloc ?_ (by simp) _)) ht HC2.out i hown2 hg2 hat2 (by simp)
    have HL3 := hid hL3
    have hnx := HL3.out.nbx hm
    have nx := hnx.2.2.1
    have k0 := unset_far HL3.out.c0 nx
    have k1 := unset_far HL3.out.c1 nx
    have k2 := unset_far HL3.out.c2 nx
    have HOE : Hid ((w3.setCell ⟨F.ms, E.tx i, none⟩ (.slice (some ⟨g2, 0, none⟩) ((m1.ws (E.tx i)).length + 1) cap2)).ownsRow F.base 60 12 u16 m1.ev.length (evs m1.ev)) := HL3.out.own_ev
    clear hL3 hown2 hg2 hat2 hlt3 hnx HL1 d0 p0 p1 p2 dI db fb nb dr fr nr ds fs ns nbr nbs nrs nrb nsb nsr hbg HL2 HC2 HOWN
    generalize w1.heap.size = bx at *
    have bw3 := cell_lt k0
    go_wp2_with (at_builtin; refine wpList_append_lies _ rfl _ _ 40 rfl F.base 60 i6 _ 12 152 Yba.underlying40 hj0 hj1 hj2 hj3 rfl (by decide) _ _ (evs m1.ev) rfl (HOE.out.alloc _) ⟨w3.heap.size, 0, none⟩ 1 1 (dfEv ((i : Int) + 1) (E.nm (E.tx i)) 2 (E.it i)).cells rfl rfl (news1 _ #[.int .u8 7, .int .u8 0, .int .i64 ((i : Int) + 1), .string (E.nm (E.tx i)), .int .u8 2, .string (E.it i), .slice none 0 0, .slice none 0 0, .int .i64 0, .int .i64 0, .string ⟨#[]⟩, .string ⟨#[]⟩] 60 _ (by simp)) (ev_one _) (by decide) (by unfold maxLen; omega) (by omega) (by have hq := HL3.out.size; simp at hq ⊢; omega) (w3.heap.size + 1) (by simp) ?_)
    intro g4 cap4 w5 hown4 hg4 hat4 hlt4
    have HL5 : Hid (Lq w w5 E F (subSt E s i) _ (.slice (some ⟨g4, 0, none⟩) (m1.ev.length + 1) cap4) u24 bx _ _ _) := HL3.out.put_ev hl hm (by repeat (first | exact Below.refl _ _ | exact below_drewN (Below.refl _ _) _ | apply Below.drew | refine Below.alloc ?_ (by simp) _)) (dfEv ((i : Int) + 1) (E.nm (E.tx i)) 2 (E.it i)) hown4 hg4 hat4 (by simp)
    clear hown4 hg4 hat4 hlt4 HL3 HOE k0 k1 k2 c3 f3
    generalize Value.slice (some ⟨g4, 0, none⟩) (m1.ev.length + 1) cap4 = v16 at *
    have de := HL5.out.fix.2.2.2.2.1 _ ht
    have fe := HL5.out.fix.2.2.2.2.2 (E.tx i)
    go_wp2
    have hM := model_wt (s := s) (mw := mw) ha.out
    rw [← HM1.out] at hM
    apply HKK.out
    · rw [com_of hM (c := s.commits) HMC.out]
    · rw [← hM]
      exact (HL5.out.set_en hl hm (E.tx i) false).head
end Go.Proofs.Ybulkiec
