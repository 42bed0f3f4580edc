import Derived.Test.Qxb6602859aQ11
namespace Go.Proofs.Qxb6602859a
open Go.RowKit Kit
set_option linter.unusedVariables false
set_option linter.unusedSimpArgs false

/-- the input, read, before the ranges are known -/
structure InpZ (w : World) (n M nr na cc fc tc kc rc ac : Nat) (ca fa ta ka ra aa : Option Addr) (C : Nat → Bool) (f t k ri ai : Nat → Int) : Prop where
  rC : Row w 4 (.slice ca n cc) n (fun i => .bool (C i))
  rF : Row w 21 (.slice fa M fc) M (fun i => .int .i32 (f i))
  rT : Row w 21 (.slice ta M tc) M (fun i => .int .i32 (t i))
  rK : Row w 5 (.slice ka M kc) M (fun i => .int .u8 (k i))
  rR : Row w 3 (.slice ra nr rc) nr (fun i => .int .i64 (ri i))
  rA : Row w 3 (.slice aa na ac) na (fun i => .int .i64 (ai i))

theorem row_nat {w : World} {v : Value} {m n : Nat} {f : Nat → Int} (h : Row w 3 v m (fun i => .int .i64 (f i))) (hf : ∀ i, i < m → 0 ≤ f i ∧ f i < (n : Int)) : Row w 3 v m (fun i => .int .i64 (((f i).toNat : Nat) : Int)) := by
  obtain ⟨a, c, e, h1, h2, h3⟩ := h
  refine ⟨a, c, e, h1, h2, h3.elim (fun h => .inl h) (fun ⟨g, e, hr⟩ => .inr ⟨g, e, hr.congr (fun i hi => ?_)⟩)⟩
  have := hf i hi
  congr 1; omega

set_option maxHeartbeats 4000000 in
set_option maxRecDepth 100000 in
theorem seg10 (w0 w : World) (n M cc fc tc kc nr na rc ac : Nat) (z : Int) (ca fa ta ka ra aa : Option Addr) (C : Nat → Bool) (f t k ri ai : Nat → Int) {x7 x8 x9 x10 x11 x12 x13 x14 x15 x16 x17 x18 x19 x20 x21 x22 x23 x24 x25 x26 x27 x28 x29 x30 x31 x32 x33 x34 x35 x36 x37 x38 x39 x40 x41 x42 x43 x44 x45 x46 x47 x48 x49 x50 x51 x52 x53 x54 x55 x56 x57 x58 x59 x60 x61 x62 x63 x64 x65 x66 x67 x68 x69 x70 x71 x72 x73 x74 x75 x76 x77 x78 x79 x80 x81 x82 x83 x84 x85 x86 x87 x88 x89 x90 x91 x92 x93 x94 x95 x96 x97 x98 x99 x100 x101 x102 x103 x104 x105 x106 x107 x108 x109 x110 x111 x112 x113 x114 x115 x116 x117 x118 x119 x120 x121 x122 x123 x124 x125 x126 x127 x128 x129 x130 x131 x132 x133 x134 x135 x136 x137 x138 x139 x140 x141 x142 x143 x144 x145 x146 x147 x148 x149 x150 x151 x152 x153 x154 x155 x156 x157 x158 x159 x160 x161 x162 x163 x164 x165 x166 x167 x168 x169 x170 x171 x172 x173 x174 x175 x176 x177 x178 x179 x180 x181 x182 x183 x184 x185 x186 x187 x188 x189 x190 x191 x192 x193 x194 x195 x196 x197 x198 x199 x200 x201 x202 x203 x204 x205 x206 x207 x208 x209 x210 x211 x212 x213 x214 x215 x216 x217 x218 x219 x220 x221 x222 x223 x224 x225 x226 x227 x228 x229 x230 x231 x232 x233 x234 x235 x236 x237 x238 x239 x240 x241 x242 x243 x244 x245 x246 x247 x248 x249 x250 x251 x252 x253 x254 x255 x256 x257 x258 x259 x260 x261 x262 x263 x264 x265 x266 x267 x268 x269 x270 x271 x272 x273 x274 x275 x276 x277 x278 x279 x280 x281 x282 x283 x284 x285 x286 x287 x288 x289 x290 x291 x292 x293 x294 x295 x296 x297 x298 x299 x300 x301 x302 x303 x304 x305 x306 x307 x308 x309 x310 x311 x312 x313 x314 x315 x316 x317 x318 x319 x320 x321 x322 x323 x324 x325 x326 x327 x328 x329 x330 x331 x332 x333 x334 x335 x336 x337 x338 x339 x340 x341 x342 x343 x344 x345 x346 x347 x348 x349 x350 x351 x352 x353 x354 x355 x356 x357 x358 x359 x360 x361 x362 x363 x364 x365 x366 x367 x368 x369 x370 x371 x372 x373 x374 x375 x376 x377 x378 x379 x380 x381 x382 x383 x384 x385 x386 x387 x388 x389 x390 x391 x392 x393 x394 x395 x396 x397 x398 x399 x400 x401 x402 x403 x404 x405 x406 x407 x408 x409 x410 x411 x412 x413 x414 x415 x416 x417 x418 x419 x420 x421 x422 x423 x424 x425 x426 x427 x428 x429 x430 x431 x432 x433 x434 x435 x436 x437 x438 x439 x440 x441 x442 x443 x444 x445 x446 x447 x448 x449 x450 x451 x452 x453 x454 x455 x456 x457 x458 x459 x460 x461 x462 x463 x464 x465 x466 x467 x468 x469 x470 x471 x472 x473 x474 x475 x476 x477 x478 x479 x480 x481 x482 x483 x484 x485 x486 x487 x488 x489 x490 x491 x492 x493 x494 x495 x496 x497 x498 x499 x500 x501 x502 x503 x504 x505 x506 x507 x508 x509 x510 x511 x512 x513 x514 x515 x516 x517 x518 x519 x520 x521 x522 x523 x524 x525 x526 x527 x528 x529 x530 x531 x532 x533 x534 x535 x536 x537 x538 x539 x540 x541 x542 x543 x544 x545 x546 x547 x548 x549 x550 x551 x552 x553 x554 x555 x556 x557 x558 x559 x560 x561 x562 x563 x564 x565 x566 x567 x568 x569 x570 x571 x572 x573 x574 x575 x576 x577 x578 x579 x580 x581 x582 x583 x584 x585 x586 x587 x588 x589 x590 x591 x592 x593 x594 x595 x596 x597 x598 x599 x600 x601 x602 x603 x604 x605 x606 x607 x608 x609 x610 x611 x612 : Value}
   (hinp : InpZ w n M nr na cc fc tc kc rc ac ca fa ta ka ra aa C f t k ri ai) (hn4 : n ≤ 4096) (hM : M ≤ 65536) (hnr : nr ≤ 4096) (hna : na ≤ 4096)
   (hB : Below w0.heap.size w0 w) (hB0 : w0.heap.size ≤ w.heap.size) :
  Code.wp Try.prog (restF Try.f7 10) (bodyPost Try.prog Try.f7 (Post7 w0)) ⟨#[.slice ca n cc, .int .i64 z, .slice fa M fc, .slice ta M tc, .slice ka M kc, .slice ra nr rc, .slice aa na ac, x7, x8, x9, x10, x11, x12, x13, x14, x15, x16, x17, x18, x19, x20, x21, x22, x23, x24, x25, x26, x27, x28, x29, x30, x31, x32, x33, x34, x35, x36, x37, x38, x39, x40, x41, x42, x43, x44, x45, x46, x47, x48, x49, x50, x51, x52, x53, x54, x55, x56, x57, x58, x59, x60, x61, x62, x63, x64, x65, x66, x67, x68, x69, x70, x71, x72, x73, x74, x75, x76, x77, x78, x79, x80, x81, x82, x83, x84, x85, x86, x87, x88, x89, x90, x91, x92, x93, x94, x95, x96, x97, x98, x99, x100, x101, x102, x103, x104, x105, x106, x107, x108, x109, x110, x111, x112, x113, x114, x115, x116, x117, x118, x119, x120, x121, x122, x123, x124, x125, x126, x127, x128, x129, x130, x131, x132, x133, x134, x135, x136, x137, x138, x139, x140, x141, x142, x143, x144, x145, x146, x147, x148, x149, x150, x151, x152, x153, x154, x155, x156, x157, x158, x159, x160, x161, x162, x163, x164, x165, x166, x167, x168, x169, x170, x171, x172, x173, x174, x175, x176, x177, x178, x179, x180, x181, x182, x183, x184, x185, x186, x187, x188, x189, x190, x191, x192, x193, x194, x195, x196, x197, x198, x199, x200, x201, x202, x203, x204, x205, x206, x207, x208, x209, x210, x211, x212, x213, x214, x215, x216, x217, x218, x219, x220, x221, x222, x223, x224, x225, x226, x227, x228, x229, x230, x231, x232, x233, x234, x235, x236, x237, x238, x239, x240, x241, x242, x243, x244, x245, x246, x247, x248, x249, x250, x251, x252, x253, x254, x255, x256, x257, x258, x259, x260, x261, x262, x263, x264, x265, x266, x267, x268, x269, x270, x271, x272, x273, x274, x275, x276, x277, x278, x279, x280, x281, x282, x283, x284, x285, x286, x287, x288, x289, x290, x291, x292, x293, x294, x295, x296, x297, x298, x299, x300, x301, x302, x303, x304, x305, x306, x307, x308, x309, x310, x311, x312, x313, x314, x315, x316, x317, x318, x319, x320, x321, x322, x323, x324, x325, x326, x327, x328, x329, x330, x331, x332, x333, x334, x335, x336, x337, x338, x339, x340, x341, x342, x343, x344, x345, x346, x347, x348, x349, x350, x351, x352, x353, x354, x355, x356, x357, x358, x359, x360, x361, x362, x363, x364, x365, x366, x367, x368, x369, x370, x371, x372, x373, x374, x375, x376, x377, x378, x379, x380, x381, x382, x383, x384, x385, x386, x387, x388, x389, x390, x391, x392, x393, x394, x395, x396, x397, x398, x399, x400, x401, x402, x403, x404, x405, x406, x407, x408, x409, x410, x411, x412, x413, x414, x415, x416, x417, x418, x419, x420, x421, x422, x423, x424, x425, x426, x427, x428, x429, x430, x431, x432, x433, x434, x435, x436, x437, x438, x439, x440, x441, x442, x443, x444, x445, x446, x447, x448, x449, x450, x451, x452, x453, x454, x455, x456, x457, x458, x459, x460, x461, x462, x463, x464, x465, x466, x467, x468, x469, x470, x471, x472, x473, x474, x475, x476, x477, x478, x479, x480, x481, x482, x483, x484, x485, x486, x487, x488, x489, x490, x491, x492, x493, x494, x495, x496, x497, x498, x499, x500, x501, x502, x503, x504, x505, x506, x507, x508, x509, x510, x511, x512, x513, x514, x515, x516, x517, x518, x519, x520, x521, x522, x523, x524, x525, x526, x527, x528, x529, x530, x531, x532, x533, x534, x535, x536, x537, x538, x539, x540, x541, x542, x543, x544, x545, x546, x547, x548, x549, x550, x551, x552, x553, x554, x555, x556, x557, x558, x559, x560, x561, x562, x563, x564, x565, x566, x567, x568, x569, x570, x571, x572, x573, x574, x575, x576, x577, x578, x579, x580, x581, x582, x583, x584, x585, x586, x587, x588, x589, x590, x591, x592, x593, x594, x595, x596, x597, x598, x599, x600, x601, x602, x603, x604, x605, x606, x607, x608, x609, x610, x611, x612], []⟩ w := by
  have HI := hid hinp
  have HB := hid hB
  have HB0 := hid hB0
  have d1 := hinp.rR.slice.1
  have d2 := hinp.rR.slice.2.1
  have d3 := hinp.rA.slice.1
  have d4 := hinp.rA.slice.2.1
  clear hinp hB hB0
  rw [rest7_10]
  conv => arg 2; arg 1; whnf
  go_wp2
  rw [rest7_11]
  conv => arg 2; arg 1; whnf
  by_cases h1 : z < (n : Int)
  · have q1 : decide (z < (n : Int)) = true := by simp [h1]
    clear h1
    go_wp2
    go_ret
    exact ⟨rfl, HB.out⟩
  by_cases h2 : 2147483647 < z
  · have q1 : decide (z < (n : Int)) = false := by simp; omega
    have q2 : decide (2147483647 < z) = true := by simp [h2]
    clear h1 h2
    go_wp2
    go_ret
    exact ⟨rfl, HB.out⟩
  obtain ⟨N, rfl⟩ : ∃ N : Nat, z = (N : Int) := ⟨z.toNat, by omega⟩
  have hnN : n ≤ N := by omega
  have hN : N ≤ 2147483647 := by omega
  have q1 : decide ((N : Int) < (n : Int)) = false := by simp; omega
  have q2 : decide (2147483647 < (N : Int)) = false := by simp; omega
  clear h1 h2
  go_wp2
  rw [rest7_12]
  conv => arg 2; arg 1; whnf
  go_wp2
  go_loopw [22] (fun i wr => ∃ j : Nat, j ≤ nr ∧ i = .int .i64 (j : Int) ∧ w = wr ∧ Hid (∀ x, x < j → 0 ≤ ri x ∧ ri x < (n : Int))) (fun i _ => nr - (intOf i).toNat)
  case atStart => exact ⟨0, Nat.zero_le _, rfl, rfl, hid (fun x hx => by omega)⟩
  case round =>
    obtain ⟨j, hj, rfl, rfl, HPR⟩ := hrel
    by_cases hlt : j < nr
    · obtain ⟨g, rfl, cr⟩ := HI.out.rR.slice.2.2 j hlt
      by_cases h1 : ri j < 0
      · have q1 : decide (ri j < 0) = true := by simp [h1]
        clear h1
        go_wp2
        go_ret
        exact ⟨rfl, HB.out⟩
      · have q1 : decide (ri j < 0) = false := by simp; omega
        by_cases h2 : (n : Int) ≤ ri j
        · have q2 : decide ((n : Int) ≤ ri j) = true := by simp [h2]
          have H1 := hid h1
          clear h1 h2
          go_wp2
          go_ret
          exact ⟨rfl, HB.out⟩
        · have q2 : decide ((n : Int) ≤ ri j) = false := by simp; omega
          have H1 := hid h1
          have H2 := hid h2
          clear h1 h2
          go_wp2
          go_roundw
          case rel =>
            refine ⟨j + 1, by omega, by go_num, trivial, hid (fun x hx => ?_)⟩
            rcases Nat.lt_or_ge x j with h | h
            · exact HPR.out x h
            · obtain rfl : x = j := by omega
              have h1 := H1.out
              have h2 := H2.out
              omega
          case measure => simp [intOf]; omega
    · obtain rfl : nr = j := by omega
      clear hj hlt
      go_wp2
      rw [rest7_13]
      conv => arg 2; arg 1; whnf
      go_wp2
      go_loopw [23] (fun i wr => ∃ j : Nat, j ≤ na ∧ i = .int .i64 (j : Int) ∧ w = wr ∧ Hid (∀ x, x < j → 0 ≤ ai x ∧ ai x < (n : Int))) (fun i _ => na - (intOf i).toNat)
      case atStart => exact ⟨0, Nat.zero_le _, rfl, rfl, hid (fun x hx => by omega)⟩
      case round =>
        obtain ⟨j, hj, rfl, rfl, HPA⟩ := hrel
        by_cases hlt : j < na
        · obtain ⟨g, rfl, cr⟩ := HI.out.rA.slice.2.2 j hlt
          by_cases h1 : ai j < 0
          · have q1 : decide (ai j < 0) = true := by simp [h1]
            clear h1
            go_wp2
            go_ret
            exact ⟨rfl, HB.out⟩
          · have q1 : decide (ai j < 0) = false := by simp; omega
            by_cases h2 : (n : Int) ≤ ai j
            · have q2 : decide ((n : Int) ≤ ai j) = true := by simp [h2]
              have H1 := hid h1
              clear h1 h2
              go_wp2
              go_ret
              exact ⟨rfl, HB.out⟩
            · have q2 : decide ((n : Int) ≤ ai j) = false := by simp; omega
              have H1 := hid h1
              have H2 := hid h2
              clear h1 h2
              go_wp2
              go_roundw
              case rel =>
                refine ⟨j + 1, by omega, by go_num, trivial, hid (fun x hx => ?_)⟩
                rcases Nat.lt_or_ge x j with h | h
                · exact HPA.out x h
                · obtain rfl : x = j := by omega
                  have h1 := H1.out
                  have h2 := H2.out
                  omega
              case measure => simp [intOf]; omega
        · obtain rfl : na = j := by omega
          clear hj hlt
          go_wp2
          exact seg14 w0 w n N M cc fc tc kc nr na rc ac ca fa ta ka ra aa C f t k (fun i => (ri i).toNat) (fun i => (ai i).toNat) ⟨HI.out.rC, HI.out.rF, HI.out.rT, HI.out.rK, row_nat HI.out.rR HPR.out, row_nat HI.out.rA HPA.out⟩ hn4 hM hnr hna hnN hN (fun i hi => by have := HPR.out i hi; omega) (fun i hi => by have := HPA.out i hi; omega) HB.out HB0.out

end Go.Proofs.Qxb6602859a
