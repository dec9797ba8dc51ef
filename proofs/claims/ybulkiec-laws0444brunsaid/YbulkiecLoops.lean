/-
  LawS0444BRun: a round of the second loop: the model's two searching loops.
-/
import Derived.Test.YbulkiecBlk
namespace Go.Proofs.Ybulkiec
open Go.ChangeShapes Go.WideShapes Go.ChangeAt Go.RowKit
set_option linter.unusedVariables false
set_option linter.unusedSimpArgs false
attribute [local go_sem ↓] Go.wp_at_zero Go.wp_at_succ

set_option maxRecDepth 100000 in
set_option maxHeartbeats 0 in
theorem loops5 {w w2 : World} {E : Env} {F : MEnv} {s m1 : St} {i bx cr : Nat} {ar : Option Addr} {u16 u24 : Value} {x0 x1 x2 x3 x4 x5 x6 x7 x8 x9 x10 x11 x12 x13 x14 x15 x16 x19 x21 x22 x23 x24 x25 x27 x31 x32 x33 x34 x35 x36 x37 x38 x39 x40 x41 x42 x43 x44 x45 x46 x47 x48 x49 x50 x51 x52 x53 x54 x55 x56 x57 x58 x59 x60 x61 x62 x63 x64 x65 x66 x67 x68 x69 x70 x71 x72 x73 x74 x75 x76 x77 x78 x79 x80 x81 x82 x83 x84 x85 x86 x87 x88 x89 x90 x91 x92 x93 x94 x95 x96 x97 x98 x99 x100 x101 x102 x103 x104 x105 x106 x107 x108 x109 x110 x111 x112 x113 x114 x115 x116 x117 x118 x119 x120 x121 x122 x123 x124 x125 x126 x127 x128 x129 x130 x131 x132 x133 x134 x135 x136 x137 x138 x139 x140 x141 x142 x143 x144 x145 x146 x147 x148 x149 x150 x151 x152 x153 x154 x155 x156 x157 x158 x159 x160 x161 x162 x163 x164 x165 x166 x167 x168 x169 x170 x171 x172 x173 x174 x175 x176 x177 x178 x179 x180 x181 x182 x183 x184 x185 x186 x187 x188 x189 x190 x191 x192 x193 x194 x195 x196 x197 x198 x199 x200 x201 x202 x203 x204 x205 x206 x207 x208 x209 x210 x211 x212 x213 x214 x215 x216 x217 x218 x219 x220 x221 x222 x223 x224 x225 x226 x227 x228 x229 x230 x231 x232 x236 x237 x238 x239 x240 x241 x242 x243 x244 x245 x246 x247 x248 x249 x250 x251 x252 x253 x254 x255 x256 x257 x258 x259 x260 x261 x262 x263 x264 x265 x266 x267 x268 x269 x270 x271 x272 x273 x274 x275 x276 x277 x278 x279 x280 x281 x282 x283 x284 x285 x286 x287 x288 x289 x290 x291 x292 x293 x294 x295 x296 x297 x298 x299 x300 x301 x302 x303 x304 x305 x306 x307 x308 x309 x310 x311 x312 x313 x314 x315 x316 x317 x318 x319 x320 x321 x322 x323 x324 x325 x326 x327 x328 x329 x330 x331 x332 x333 x334 x335 x336 x337 x338 x339 x340 x341 x342 x343 x344 x345 x346 x347 x348 x349 x350 x351 x352 x353 x354 x355 x356 x357 x358 x359 x360 x361 x362 x363 x364 x365 x366 x367 x368 x369 x370 x371 x372 x373 x374 x375 x376 x377 x378 x379 x380 x381 x382 x383 x384 x385 x386 x387 x388 x389 x390 x391 x392 x393 x394 x395 x396 x397 x398 x399 x400 x401 x402 x403 x404 x405 x406 x407 x408 x409 x410 x411 x412 x413 x414 x415 x416 x417 x418 x419 x420 x421 x422 x423 x424 x425 x426 x427 x428 x429 x430 x431 x432 x433 x434 x435 x436 x437 x438 x439 x440 x441 x442 x443 x444 x445 x446 x447 x448 x449 x450 x451 x452 x453 x454 x455 x456 x457 x458 x459 x460 x461 x462 x463 x464 x465 x466 x467 x468 x469 x470 : Value} {K : Act → World → Prop} {Q : Exit → Act → World → Prop}
    (hl : Lay E) (hm : MLay E F) (ht : E.tx i < 3) (hG : MGood E m1) (hL : Lq w w2 E F (subSt E s i) m1 u16 u24 bx (.string (E.nm (E.tx i))) (.int .u8 3) (.string (E.it i)))
    (hdr : w2.cell? ⟨F.mr, E.tx i, none⟩ = some (.slice ar (m1.reads (E.tx i)).length cr))
    (hK : ∀ (z28 z29 z30 z32 z34 z235 z236 z237 z238 z239 z240 z241 z242 z243 z244 z245 z246 z247 z248 z249 z250 z251 z252 z253 z254 z255 z256 z257 z258 : Value) (w' : World), Lq w w' E F (subSt E s i) m1 u16 u24 bx (.string (E.nm (E.tx i))) (.int .u8 3) (.string (E.it i)) ∧ ((inval m1.wr (m1.began (E.tx i)) (m1.reads (E.tx i)) = none ∧ z28 = .bool false ∧ z29 = .int .i64 0 ∧ z30 = .int .i64 0) ∨ (∃ x wt : Nat, inval m1.wr (m1.began (E.tx i)) (m1.reads (E.tx i)) = some (x, wt) ∧ z28 = .bool true ∧ z29 = .int .i64 (x : Int) ∧ z30 = .int .i64 (wt : Int))) → K ⟨#[x0, x1, x2, x3, x4, x5, x6, x7, x8, x9, x10, x11, x12, x13, x14, x15, x16, Value.pointer (some ⟨F.mb, 0, none⟩), Value.pointer (some ⟨F.mr, 0, none⟩), x19, Value.pointer (some ⟨F.mw, 0, none⟩), x21, x22, x23, x24, x25, Value.int IntKind.i64 (E.tx i : Int), x27, z28, z29, z30, x31, z32, x33, z34, x35, x36, x37, x38, x39, x40, x41, x42, x43, x44, x45, x46, x47, x48, x49, x50, x51, x52, x53, x54, x55, x56, x57, x58, x59, x60, x61, x62, x63, x64, x65, x66, x67, x68, x69, x70, x71, x72, x73, x74, x75, x76, x77, x78, x79, x80, x81, x82, x83, x84, x85, x86, x87, x88, x89, x90, x91, x92, x93, x94, x95, x96, x97, x98, x99, x100, x101, x102, x103, x104, x105, x106, x107, x108, x109, x110, x111, x112, x113, x114, x115, x116, x117, x118, x119, x120, x121, x122, x123, x124, x125, x126, x127, x128, x129, x130, x131, x132, x133, x134, x135, x136, x137, x138, x139, x140, x141, x142, x143, x144, x145, x146, x147, x148, x149, x150, x151, x152, x153, x154, x155, x156, x157, x158, x159, x160, x161, x162, x163, x164, x165, x166, x167, x168, x169, x170, x171, x172, x173, x174, x175, x176, x177, x178, x179, x180, x181, x182, x183, x184, x185, x186, x187, x188, x189, x190, x191, x192, x193, x194, x195, x196, x197, x198, x199, x200, x201, x202, x203, x204, x205, x206, x207, x208, x209, x210, x211, x212, x213, x214, x215, x216, x217, x218, x219, x220, x221, x222, x223, x224, x225, x226, x227, x228, x229, x230, x231, x232, Value.slice ar (m1.reads (E.tx i)).length cr, Value.int IntKind.i64 ((m1.reads (E.tx i)).length : Int), z235, z236, z237, z238, z239, z240, z241, z242, z243, z244, z245, z246, z247, z248, z249, z250, z251, z252, z253, z254, z255, z256, z257, z258, x259, x260, x261, x262, x263, x264, x265, x266, x267, x268, x269, x270, x271, x272, x273, x274, x275, x276, x277, x278, x279, x280, x281, x282, x283, x284, x285, x286, x287, x288, x289, x290, x291, x292, x293, x294, x295, x296, x297, x298, x299, x300, x301, x302, x303, x304, x305, x306, x307, x308, x309, x310, x311, x312, x313, x314, x315, x316, x317, x318, x319, x320, x321, x322, x323, x324, x325, x326, x327, x328, x329, x330, x331, x332, x333, x334, x335, x336, x337, x338, x339, x340, x341, x342, x343, x344, x345, x346, x347, x348, x349, x350, x351, x352, x353, x354, x355, x356, x357, x358, x359, x360, x361, x362, x363, x364, x365, x366, x367, x368, x369, x370, x371, x372, x373, x374, x375, x376, x377, x378, x379, x380, x381, x382, x383, x384, x385, x386, x387, x388, x389, x390, x391, x392, x393, x394, x395, x396, x397, x398, x399, x400, x401, x402, x403, x404, x405, x406, x407, x408, x409, x410, x411, x412, x413, x414, x415, x416, x417, x418, x419, x420, x421, x422, x423, x424, x425, x426, x427, x428, x429, x430, x431, x432, x433, x434, x435, x436, x437, x438, x439, x440, x441, x442, x443, x444, x445, x446, x447, x448, x449, x450, x451, x452, x453, x454, x455, x456, x457, x458, x459, x460, x461, x462, x463, x464, x465, x466, x467, x468, x469, x470], []⟩ w') :
    Code.wp Yba.prog (blk5 Yba.f3) (Exit.then K Q) ⟨#[x0, x1, x2, x3, x4, x5, x6, x7, x8, x9, x10, x11, x12, x13, x14, x15, x16, Value.pointer (some ⟨F.mb, 0, none⟩), Value.pointer (some ⟨F.mr, 0, none⟩), x19, Value.pointer (some ⟨F.mw, 0, none⟩), x21, x22, x23, x24, x25, Value.int IntKind.i64 (E.tx i : Int), x27, Value.bool false, Value.int IntKind.i64 0, Value.int IntKind.i64 0, x31, x32, x33, x34, x35, x36, x37, x38, x39, x40, x41, x42, x43, x44, x45, x46, x47, x48, x49, x50, x51, x52, x53, x54, x55, x56, x57, x58, x59, x60, x61, x62, x63, x64, x65, x66, x67, x68, x69, x70, x71, x72, x73, x74, x75, x76, x77, x78, x79, x80, x81, x82, x83, x84, x85, x86, x87, x88, x89, x90, x91, x92, x93, x94, x95, x96, x97, x98, x99, x100, x101, x102, x103, x104, x105, x106, x107, x108, x109, x110, x111, x112, x113, x114, x115, x116, x117, x118, x119, x120, x121, x122, x123, x124, x125, x126, x127, x128, x129, x130, x131, x132, x133, x134, x135, x136, x137, x138, x139, x140, x141, x142, x143, x144, x145, x146, x147, x148, x149, x150, x151, x152, x153, x154, x155, x156, x157, x158, x159, x160, x161, x162, x163, x164, x165, x166, x167, x168, x169, x170, x171, x172, x173, x174, x175, x176, x177, x178, x179, x180, x181, x182, x183, x184, x185, x186, x187, x188, x189, x190, x191, x192, x193, x194, x195, x196, x197, x198, x199, x200, x201, x202, x203, x204, x205, x206, x207, x208, x209, x210, x211, x212, x213, x214, x215, x216, x217, x218, x219, x220, x221, x222, x223, x224, x225, x226, x227, x228, x229, x230, x231, x232, Value.slice ar (m1.reads (E.tx i)).length cr, Value.int IntKind.i64 ((m1.reads (E.tx i)).length : Int), Value.int IntKind.i64 0, x236, x237, x238, x239, x240, x241, x242, x243, x244, x245, x246, x247, x248, x249, x250, x251, x252, x253, x254, x255, x256, x257, x258, x259, x260, x261, x262, x263, x264, x265, x266, x267, x268, x269, x270, x271, x272, x273, x274, x275, x276, x277, x278, x279, x280, x281, x282, x283, x284, x285, x286, x287, x288, x289, x290, x291, x292, x293, x294, x295, x296, x297, x298, x299, x300, x301, x302, x303, x304, x305, x306, x307, x308, x309, x310, x311, x312, x313, x314, x315, x316, x317, x318, x319, x320, x321, x322, x323, x324, x325, x326, x327, x328, x329, x330, x331, x332, x333, x334, x335, x336, x337, x338, x339, x340, x341, x342, x343, x344, x345, x346, x347, x348, x349, x350, x351, x352, x353, x354, x355, x356, x357, x358, x359, x360, x361, x362, x363, x364, x365, x366, x367, x368, x369, x370, x371, x372, x373, x374, x375, x376, x377, x378, x379, x380, x381, x382, x383, x384, x385, x386, x387, x388, x389, x390, x391, x392, x393, x394, x395, x396, x397, x398, x399, x400, x401, x402, x403, x404, x405, x406, x407, x408, x409, x410, x411, x412, x413, x414, x415, x416, x417, x418, x419, x420, x421, x422, x423, x424, x425, x426, x427, x428, x429, x430, x431, x432, x433, x434, x435, x436, x437, x438, x439, x440, x441, x442, x443, x444, x445, x446, x447, x448, x449, x450, x451, x452, x453, x454, x455, x456, x457, x458, x459, x460, x461, x462, x463, x464, x465, x466, x467, x468, x469, x470], []⟩ w2 := by
  have HKK := hid hK
  have HG := hid hG
  have HL2 := hid hL
  clear hK hG hL
  conv => arg 2; whnf
  have hti : (E.tx i : Int) < 3 := by omega
  have hlr := HG.out.rd (E.tx i)
  obtain ⟨ah, ch, d3, _, _, hrow⟩ := HL2.out.rd ht
  have he := d3.symm.trans hdr
  injection he with he
  injection he with he1 he2 he3
  rw [he1] at hrow
  have HRow := hid hrow
  clear hrow d3 he1 he3 hdr
  try clear he2
  have hbd := HG.out.bg (E.tx i)
  go_wp2_with fail
  go_loopw [235, 28, 29, 30] (fun a b c d wq => ∃ k : Nat, a = .int .i64 (k : Int) ∧ ((b = .bool false ∧ c = .int .i64 0 ∧ d = .int .i64 0 ∧ Hid (k ≤ (m1.reads (E.tx i)).length ∧ Below w2.heap.size w2 wq ∧ inval m1.wr (m1.began (E.tx i)) ((m1.reads (E.tx i)).drop k) = inval m1.wr (m1.began (E.tx i)) (m1.reads (E.tx i)))) ∨ (∃ x wt : Nat, b = .bool true ∧ c = .int .i64 (x : Int) ∧ d = .int .i64 (wt : Int) ∧ Hid (k ≤ (m1.reads (E.tx i)).length ∧ Below w2.heap.size w2 wq ∧ inval m1.wr (m1.began (E.tx i)) (m1.reads (E.tx i)) = some (x, wt))))) (fun u _ _ _ _ => (m1.reads (E.tx i)).length - (intOf u).toNat)
  case atStart => exact ⟨0, rfl, Or.inl ⟨rfl, rfl, rfl, Nat.zero_le _, Below.refl _ _, rfl⟩⟩
  case round =>
    rename World => wq
    obtain ⟨k, rfl, ⟨rfl, rfl, rfl, HK⟩ | ⟨x, wt, rfl, rfl, rfl, HK⟩⟩ := hrel
    · by_cases hkl : k < (m1.reads (E.tx i)).length
      · obtain ⟨g, hg, hgl, hgc⟩ := HRow.out (by omega)
        subst hg
        have hy : (m1.reads (E.tx i)).getD k 0 < 3 := HG.out.rdx (E.tx i) _ (by simp [List.getD, hkl])
        have HD := hid (drop_cons (m1.reads (E.tx i)) k hkl)
        have kc := bel_cell HK.out.2.1 (hgc k hkl)
        clear hgc
        generalize (m1.reads (E.tx i)).getD k 0 = y at *
        have hki : (k : Int) < ((m1.reads (E.tx i)).length : Int) := by omega
        have hyi : (y : Int) < 3 := by omega
        have HLq := hid (HL2.out.below hl HK.out.2.1)
        obtain ⟨aw, cw, dw, fw, _, hroww⟩ := HLq.out.wrs hy
        have HRw := hid hroww
        clear hroww fw
        have dbg := HLq.out.fix.1 _ ht
        have hlw2 := HG.out.wr y
        go_wp2
        go_loopw [244, 28, 29, 30] (fun a b c d wp => ∃ j : Nat, a = .int .i64 (j : Int) ∧ b = .bool false ∧ c = .int .i64 0 ∧ d = .int .i64 0 ∧ Hid (j ≤ (m1.wr y).length ∧ Below wq.heap.size wq wp ∧ ∀ q, q < j → (((m1.wr y).getD q (0, 0)).1 : Int) < m1.began (E.tx i) + 1)) (fun u _ _ _ _ => (m1.wr y).length - (intOf u).toNat)
        case atStart => exact ⟨0, rfl, rfl, rfl, rfl, Nat.zero_le _, Below.refl _ _, fun q hq => absurd hq (by omega)⟩
        case round =>
          rename World => wp
          obtain ⟨j, rfl, rfl, rfl, rfl, HJ⟩ := hrel
          by_cases hjl : j < (m1.wr y).length
          · obtain ⟨g', e1, e2, e3⟩ := HRw.out (by omega)
            subst e1
            obtain ⟨x1, x2⟩ := e3 j hjl
            replace x1 := bel_cell HJ.out.2.1 x1
            replace x2 := bel_cell HJ.out.2.1 x2
            have dbp := bel_cell HJ.out.2.1 dbg
            have nbp := cell_lt dbp
            have hji : (j : Int) < ((m1.wr y).length : Int) := by omega
            clear e3 kc dw dbg
            obtain ⟨p1, hp1⟩ : ∃ p1, ((m1.wr y).getD j (0, 0)).1 = p1 := ⟨_, rfl⟩
            obtain ⟨p2, hp2⟩ : ∃ p2, ((m1.wr y).getD j (0, 0)).2 = p2 := ⟨_, rfl⟩
            rw [hp1] at x1
            rw [hp2] at x2
            have HP1 := hid hp1
            have HP2 := hid hp2
            clear hp1 hp2
            by_cases hgt : m1.began (E.tx i) < (p1 : Int)
            · have HGT := hid hgt
              have HA : Hid (inval m1.wr (m1.began (E.tx i)) (m1.reads (E.tx i)) = some (y, p2)) := by
                have hF : firstW (m1.wr y) (m1.began (E.tx i)) = some p2 := by
                  have := firstW_at (m1.wr y) (m1.began (E.tx i)) j hjl HJ.out.2.2 (by rw [HP1.out]; have := HGT.out; omega)
                  rw [HP2.out] at this
                  exact this
                have h1 := HK.out.2.2
                rw [HD.out] at h1
                rw [← h1]
                show (match firstW (m1.wr y) (m1.began (E.tx i)) with | some t => some (y, t) | none => _) = _
                rw [hF]
              go_wp2
              go_quiet (fail)
              go_wp2
              go_quiet (fail)
              go_wp2
              go_roundw
              case rel => exact ⟨k + 1, by go_num, Or.inr ⟨y, p2, rfl, rfl, rfl, hkl, bel2 HK.out.2.1 (bel2 HJ.out.2.1 (by repeat (first | exact Below.refl _ _ | refine below_drewN ?_ _ | apply Below.drew | refine Below.alloc ?_ (by simp) _))), HA.out⟩⟩
              case measure => simp [intOf]; omega
            · go_wp2
              go_quiet (fail)
              go_wp2
              go_roundw
              case rel => exact ⟨j + 1, by go_num, rfl, rfl, rfl, hjl, bel2 HJ.out.2.1 (by repeat (first | exact Below.refl _ _ | refine below_drewN ?_ _ | apply Below.drew | refine Below.alloc ?_ (by simp) _)), fun q hq => by
                by_cases e : q < j
                · exact HJ.out.2.2 q e
                · rw [show q = j by omega, HP1.out]; omega⟩
              case measure => simp [intOf]; omega
          · have hji : ¬ (j : Int) < ((m1.wr y).length : Int) := by omega
            have HN : Hid (inval m1.wr (m1.began (E.tx i)) ((m1.reads (E.tx i)).drop (k + 1)) = inval m1.wr (m1.began (E.tx i)) ((m1.reads (E.tx i)).drop k)) := by
              rw [HD.out]
              show _ = (match firstW (m1.wr y) (m1.began (E.tx i)) with | some t => some (y, t) | none => inval m1.wr (m1.began (E.tx i)) ((m1.reads (E.tx i)).drop (k + 1)))
              rw [firstW_none (m1.wr y) (m1.began (E.tx i)) (fun q hq => HJ.out.2.2 q (by omega))]
            go_wp2
            go_roundw
            case rel => exact ⟨k + 1, by go_num, Or.inl ⟨rfl, rfl, rfl, hkl, bel2 HK.out.2.1 HJ.out.2.1, HN.out.trans HK.out.2.2⟩⟩
            case measure => simp [intOf]; omega
      · have hki : ¬ (k : Int) < ((m1.reads (E.tx i)).length : Int) := by omega
        have HE : Hid (inval m1.wr (m1.began (E.tx i)) (m1.reads (E.tx i)) = none) := by
          have h1 := HK.out.2.2
          rw [show k = (m1.reads (E.tx i)).length by have := HK.out.1; omega, List.drop_length] at h1
          exact h1.symm
        go_wp2_with fail
        apply HKK.out
        exact ⟨HL2.out.below hl HK.out.2.1, Or.inl ⟨HE.out, rfl, rfl, rfl⟩⟩
    · by_cases hkl : k < (m1.reads (E.tx i)).length
      · have hki : (k : Int) < ((m1.reads (E.tx i)).length : Int) := by omega
        obtain ⟨g, hg, hgl, hgc⟩ := HRow.out (by omega)
        subst hg
        have kc := bel_cell HK.out.2.1 (hgc k hkl)
        clear hgc
        go_wp2_with fail
        apply HKK.out
        exact ⟨HL2.out.below hl HK.out.2.1, Or.inr ⟨x, wt, HK.out.2.2, rfl, rfl, rfl⟩⟩
      · have hki : ¬ (k : Int) < ((m1.reads (E.tx i)).length : Int) := by omega
        go_wp2_with fail
        apply HKK.out
        exact ⟨HL2.out.below hl HK.out.2.1, Or.inr ⟨x, wt, HK.out.2.2, rfl, rfl, rfl⟩⟩
end Go.Proofs.Ybulkiec
