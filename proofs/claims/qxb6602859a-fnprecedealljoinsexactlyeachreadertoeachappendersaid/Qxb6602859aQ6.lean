import Derived.Test.Qxb6602859aQ5
namespace Go.Proofs.Qxb6602859a
open Go.RowKit Kit
set_option linter.unusedVariables false
set_option linter.unusedSimpArgs false

/-- may a new edge end there -/
def endOk (C : Nat → Bool) (n N : Nat) (virt : Bool) (u : Nat) : Prop := (u < n ∧ C u = true) ∨ (n ≤ u ∧ virt = true ∧ u = N)

/-- what the later part reads, in world w -/
structure St (w0 w : World) (n N m M mm ir ia cc nfc ntc nkc : Nat) (ca nfa nta nka : Option Addr) (C R A : Nat → Bool) (fu tu : Nat → Nat) (virt : Bool) : Prop where
  hn : n ≤ 4096
  hN : N ≤ 2147483647
  hmm : mm = M + m
  hm : m ≤ 65536
  hM : M ≤ 65536
  hf : ∀ j, j < m → endOk C n N virt (fu j)
  ht : ∀ j, j < m → endOk C n N virt (tu j)
  ne : ∀ j, j < m → fu j ≠ tu j
  law : ∀ x, x < n → ∀ y, y < n → y ≠ x → (Relation.TransGen (fun a b => ∃ j, j < m ∧ slotN n (fu j) = a ∧ slotN n (tu j) = b) x y ↔ (R x && A y && C x && C y) = true)
  c0 : n ≤ cc
  c1 : cc ≤ 9223372036854775807
  c2 : mm ≤ nfc
  c3 : nfc ≤ 9223372036854775807
  c4 : mm ≤ ntc
  c5 : ntc ≤ 9223372036854775807
  c6 : mm ≤ nkc
  c7 : nkc ≤ 9223372036854775807
  below : Below w0.heap.size w0 w
  size : w0.heap.size ≤ w.heap.size
  rC : Row w 4 (.slice ca n cc) n (fun i => .bool (C i))
  rR : w.rowIs ir 4 n (fun i => .bool (R i))
  rA : w.rowIs ia 4 n (fun i => .bool (A i))
  nf : ∀ j, M ≤ j → j < mm → ∃ g, nfa = some ⟨g, 0, none⟩ ∧ w.cell? ⟨g, j, none⟩ = some (.int .i32 (fu (j - M) : Int))
  nt : ∀ j, M ≤ j → j < mm → ∃ g, nta = some ⟨g, 0, none⟩ ∧ w.cell? ⟨g, j, none⟩ = some (.int .i32 (tu (j - M) : Int))
  nk : ∀ j, M ≤ j → j < mm → ∃ g, nka = some ⟨g, 0, none⟩ ∧ w.cell? ⟨g, j, none⟩ = some (.int .u8 4)

section
variable {w0 w wr : World} {n N m M mm ir ia cc nfc ntc nkc : Nat} {ca nfa nta nka : Option Addr} {C R A : Nat → Bool} {fu tu : Nat → Nat} {virt : Bool}

theorem endOk.le {u : Nat} (h : endOk C n N virt u) (hn : n ≤ 4096) (hN : N ≤ 2147483647) : u ≤ 2147483647 := by
  rcases h with ⟨h, _⟩ | ⟨_, _, h⟩ <;> omega

theorem St.later (h : St w0 w n N m M mm ir ia cc nfc ntc nkc ca nfa nta nka C R A fu tu virt) (hk : Kept (fun _ => False) w wr) : St w0 wr n N m M mm ir ia cc nfc ntc nkc ca nfa nta nka C R A fu tu virt :=
  ⟨h.hn, h.hN, h.hmm, h.hm, h.hM, h.hf, h.ht, h.ne, h.law, h.c0, h.c1, h.c2, h.c3, h.c4, h.c5, h.c6, h.c7, hk.below h.below h.size (fun g h => h.elim), Nat.le_trans h.size hk.size, h.rC.kept hk (fun _ _ _ h => h), hk.row h.rR (fun h => h), hk.row h.rA (fun h => h),
   (fun j h1 h2 => (h.nf j h1 h2).elim fun g hg => ⟨g, hg.1, hk.cell hg.2 (fun h => h)⟩), (fun j h1 h2 => (h.nt j h1 h2).elim fun g hg => ⟨g, hg.1, hk.cell hg.2 (fun h => h)⟩), (fun j h1 h2 => (h.nk j h1 h2).elim fun g hg => ⟨g, hg.1, hk.cell hg.2 (fun h => h)⟩)⟩
end

set_option maxHeartbeats 4000000 in
set_option maxRecDepth 100000 in
theorem seg27 (w0 w : World) (n N m M mm ir ia cc fc nfc ntc nkc : Nat) (ca fa nfa nta nka : Option Addr) (C R A : Nat → Bool) (fu tu : Nat → Nat) (virt : Bool) {x3 x4 x5 x6 x7 x8 x9 x10 x11 x12 x13 x14 x15 x16 x17 x18 x19 x20 x22 x23 x26 x27 x28 x29 x33 x35 x36 x37 x38 x39 x40 x41 x42 x43 x44 x45 x46 x47 x48 x49 x50 x51 x52 x53 x54 x55 x56 x57 x58 x59 x60 x61 x62 x63 x64 x65 x66 x67 x68 x69 x70 x71 x72 x73 x74 x75 x76 x77 x78 x79 x80 x81 x82 x83 x84 x85 x86 x87 x88 x89 x90 x91 x92 x93 x94 x95 x96 x97 x98 x99 x100 x101 x102 x103 x104 x105 x106 x107 x108 x109 x110 x111 x112 x113 x114 x115 x116 x117 x118 x119 x120 x121 x122 x123 x124 x125 x126 x127 x128 x129 x130 x131 x132 x133 x134 x135 x136 x137 x138 x139 x140 x141 x142 x143 x144 x145 x146 x147 x148 x149 x150 x151 x152 x153 x154 x155 x156 x157 x158 x159 x160 x161 x162 x163 x164 x165 x166 x167 x168 x169 x170 x171 x172 x173 x174 x175 x176 x177 x178 x179 x180 x181 x182 x183 x184 x185 x186 x187 x188 x189 x190 x191 x192 x193 x194 x195 x196 x197 x198 x199 x200 x201 x202 x203 x204 x205 x206 x207 x208 x209 x210 x211 x212 x213 x214 x215 x216 x217 x218 x219 x220 x221 x222 x223 x224 x225 x226 x227 x228 x229 x230 x231 x232 x233 x234 x235 x236 x237 x238 x239 x240 x241 x242 x243 x244 x245 x246 x247 x248 x249 x250 x251 x252 x253 x254 x255 x256 x257 x258 x259 x260 x261 x262 x263 x264 x265 x266 x267 x268 x269 x270 x271 x272 x273 x274 x275 x276 x277 x278 x279 x280 x281 x282 x283 x284 x285 x286 x287 x288 x289 x290 x291 x292 x293 x294 x295 x296 x297 x298 x299 x300 x301 x302 x303 x304 x305 x306 x307 x308 x309 x310 x311 x312 x313 x314 x315 x316 x317 x318 x319 x320 x321 x322 x323 x324 x325 x326 x327 x328 x329 x330 x331 x332 x333 x334 x335 x336 x337 x338 x339 x340 x341 x342 x343 x344 x345 x346 x347 x348 x349 x350 x351 x352 x353 x354 x355 x356 x357 x358 x359 x360 x361 x362 x363 x364 x365 x366 x367 x368 x369 x370 x371 x372 x373 x374 x375 x376 x377 x378 x379 x380 x381 x382 x383 x384 x385 x386 x387 x388 x389 x390 x391 x392 x393 x394 x395 x396 x397 x398 x399 x400 x401 x402 x403 x404 x405 x406 x407 x408 x409 x410 x411 x412 x413 x414 x415 x416 x417 x418 x419 x420 x421 x422 x423 x424 x425 x426 x427 x428 x429 x430 x431 x432 x433 x434 x435 x436 x437 x438 x439 x440 x441 x442 x443 x444 x445 x446 x447 x448 x449 x450 x451 x452 x453 x454 x455 x456 x457 x458 x459 x460 x461 x462 x463 x464 x465 x466 x467 x468 x469 x470 x471 x472 x473 x474 x475 x476 x477 x478 x479 x480 x481 x482 x483 x484 x485 x486 x487 x488 x489 x490 x491 x492 x493 x494 x495 x496 x497 x498 x499 x500 x501 x502 x503 x504 x505 x506 x507 x508 x509 x510 x511 x512 x513 x514 x515 x516 x517 x518 x519 x520 x521 x522 x523 x524 x525 x526 x527 x528 x529 x530 x531 x532 x533 x534 x535 x536 x537 x538 x539 x540 x541 x542 x543 x544 x545 x546 x547 x548 x549 x550 x551 x552 x553 x554 x555 x556 x557 x558 x559 x560 x561 x562 x563 x564 x565 x566 x567 x568 x569 x570 x571 x572 x573 x574 x575 x576 x577 x578 x579 x580 x581 x582 x583 x584 x585 x586 x587 x588 x589 x590 x591 x592 x593 x594 x595 x596 x597 x598 x599 x600 x601 x602 x603 x604 x605 x606 x607 x608 x609 x610 x611 x612 : Value}
   (hst : St w0 w n N m M mm ir ia cc nfc ntc nkc ca nfa nta nka C R A fu tu virt) :
  Code.wp Try.prog (restF Try.f7 27) (bodyPost Try.prog Try.f7 (Post7 w0)) ⟨#[.slice ca n cc, .int .i64 (N : Int), .slice fa M fc, x3, x4, x5, x6, x7, x8, x9, x10, x11, x12, x13, x14, x15, x16, x17, x18, x19, x20, .int .i64 (n : Int), x22, x23, .slice (some ⟨ir, 0, none⟩) n n, .slice (some ⟨ia, 0, none⟩) n n, x26, x27, x28, x29, .slice nfa mm nfc, .slice nta mm ntc, .slice nka mm nkc, x33, .bool virt, x35, x36, x37, x38, x39, x40, x41, x42, x43, x44, x45, x46, x47, x48, x49, x50, x51, x52, x53, x54, x55, x56, x57, x58, x59, x60, x61, x62, x63, x64, x65, x66, x67, x68, x69, x70, x71, x72, x73, x74, x75, x76, x77, x78, x79, x80, x81, x82, x83, x84, x85, x86, x87, x88, x89, x90, x91, x92, x93, x94, x95, x96, x97, x98, x99, x100, x101, x102, x103, x104, x105, x106, x107, x108, x109, x110, x111, x112, x113, x114, x115, x116, x117, x118, x119, x120, x121, x122, x123, x124, x125, x126, x127, x128, x129, x130, x131, x132, x133, x134, x135, x136, x137, x138, x139, x140, x141, x142, x143, x144, x145, x146, x147, x148, x149, x150, x151, x152, x153, x154, x155, x156, x157, x158, x159, x160, x161, x162, x163, x164, x165, x166, x167, x168, x169, x170, x171, x172, x173, x174, x175, x176, x177, x178, x179, x180, x181, x182, x183, x184, x185, x186, x187, x188, x189, x190, x191, x192, x193, x194, x195, x196, x197, x198, x199, x200, x201, x202, x203, x204, x205, x206, x207, x208, x209, x210, x211, x212, x213, x214, x215, x216, x217, x218, x219, x220, x221, x222, x223, x224, x225, x226, x227, x228, x229, x230, x231, x232, x233, x234, x235, x236, x237, x238, x239, x240, x241, x242, x243, x244, x245, x246, x247, x248, x249, x250, x251, x252, x253, x254, x255, x256, x257, x258, x259, x260, x261, x262, x263, x264, x265, x266, x267, x268, x269, x270, x271, x272, x273, x274, x275, x276, x277, x278, x279, x280, x281, x282, x283, x284, x285, x286, x287, x288, x289, x290, x291, x292, x293, x294, x295, x296, x297, x298, x299, x300, x301, x302, x303, x304, x305, x306, x307, x308, x309, x310, x311, x312, x313, x314, x315, x316, x317, x318, x319, x320, x321, x322, x323, x324, x325, x326, x327, x328, x329, x330, x331, x332, x333, x334, x335, x336, x337, x338, x339, x340, x341, x342, x343, x344, x345, x346, x347, x348, x349, x350, x351, x352, x353, x354, x355, x356, x357, x358, x359, x360, x361, x362, x363, x364, x365, x366, x367, x368, x369, x370, x371, x372, x373, x374, x375, x376, x377, x378, x379, x380, x381, x382, x383, x384, x385, x386, x387, x388, x389, x390, x391, x392, x393, x394, x395, x396, x397, x398, x399, x400, x401, x402, x403, x404, x405, x406, x407, x408, x409, x410, x411, x412, x413, x414, x415, x416, x417, x418, x419, x420, x421, x422, x423, x424, x425, x426, x427, x428, x429, x430, x431, x432, x433, x434, x435, x436, x437, x438, x439, x440, x441, x442, x443, x444, x445, x446, x447, x448, x449, x450, x451, x452, x453, x454, x455, x456, x457, x458, x459, x460, x461, x462, x463, x464, x465, x466, x467, x468, x469, x470, x471, x472, x473, x474, x475, x476, x477, x478, x479, x480, x481, x482, x483, x484, x485, x486, x487, x488, x489, x490, x491, x492, x493, x494, x495, x496, x497, x498, x499, x500, x501, x502, x503, x504, x505, x506, x507, x508, x509, x510, x511, x512, x513, x514, x515, x516, x517, x518, x519, x520, x521, x522, x523, x524, x525, x526, x527, x528, x529, x530, x531, x532, x533, x534, x535, x536, x537, x538, x539, x540, x541, x542, x543, x544, x545, x546, x547, x548, x549, x550, x551, x552, x553, x554, x555, x556, x557, x558, x559, x560, x561, x562, x563, x564, x565, x566, x567, x568, x569, x570, x571, x572, x573, x574, x575, x576, x577, x578, x579, x580, x581, x582, x583, x584, x585, x586, x587, x588, x589, x590, x591, x592, x593, x594, x595, x596, x597, x598, x599, x600, x601, x602, x603, x604, x605, x606, x607, x608, x609, x610, x611, x612], []⟩ w := by
  have HST := hid hst
  have hn := hst.hn
  have hN := hst.hN
  have hm := hst.hm
  have hM := hst.hM
  have hMm : M ≤ mm := by have := hst.hmm; omega
  have hmm2 : mm ≤ 131072 := by have := hst.hmm; omega
  have c0 := hst.c0
  have c1 := hst.c1
  have c2 := hst.c2
  have c3 := hst.c3
  have c4 := hst.c4
  have c5 := hst.c5
  have c6 := hst.c6
  have c7 := hst.c7
  clear hst
  rw [rest7_27]
  conv => arg 2; arg 1; whnf
  go_wp2
  go_loopw [37] (fun i wr => ∃ j : Nat, M ≤ j ∧ j ≤ mm ∧ i = .int .i64 (j : Int) ∧ Hid (St w0 wr n N m M mm ir ia cc nfc ntc nkc ca nfa nta nka C R A fu tu virt)) (fun i _ => mm - (intOf i).toNat)
  case atStart => exact ⟨M, Nat.le_refl _, hMm, rfl, HST⟩
  case round =>
    clear HST
    obtain ⟨j, hj1, hj2, rfl, HST⟩ := hrel
    by_cases hlt : j < mm
    · obtain ⟨g1, rfl, cf⟩ := HST.out.nf j hj1 hlt
      obtain ⟨g2, rfl, ct⟩ := HST.out.nt j hj1 hlt
      obtain ⟨g3, rfl, ck⟩ := HST.out.nk j hj1 hlt
      have hk : j - M < m := by have := HST.out.hmm; omega
      have hef := HST.out.hf _ hk
      have het := HST.out.ht _ hk
      have hf1 := hef.le hn hN
      have ht1 := het.le hn hN
      have q : ((fu (j - M) : Int) == (tu (j - M) : Int)) = false := by have := HST.out.ne _ hk; simp; omega
      have HEF := hid hef
      have HET := hid het
      clear hef het
      go_wp2
      go_quiet (fail)
      have HS2 := hid (HST.out.later ((Kept.refl _ _).drewN nq))
      clear HST cf ct ck
      obtain ⟨g1', e1, cf⟩ := HS2.out.nf j hj1 hlt
      cases e1
      obtain ⟨g2', e2, ct⟩ := HS2.out.nt j hj1 hlt
      cases e2
      generalize wr.drewN nq = wq at HS2 cf ct ⊢
      go_wp2_with fail
      refine (zz22_any n (fu (j - M)) N C _ virt _ hf1 hN HS2.out.rC HEF.out).mono ?_
      rintro e w' ⟨rfl, hw⟩
      replace hw := hw.symm
      subst hw
      go_wp2_with fail
      refine (zz22_any n (tu (j - M)) N C _ virt _ ht1 hN HS2.out.rC HET.out).mono ?_
      rintro e w' ⟨rfl, hw⟩
      replace hw := hw.symm
      subst hw
      go_wp2
      go_roundw
      case rel => exact ⟨j + 1, by omega, by omega, by go_num, HS2⟩
      case measure => simp [intOf]; omega
    · obtain rfl : mm = j := by omega
      go_wp2
      exact seg28 w0 wr n m M mm ir ia cc fc nfc ntc ca fa nfa nta C R A fu tu hn HST.out.hmm hm hM (fun j hj => (HST.out.hf j hj).le hn hN) (fun j hj => (HST.out.ht j hj).le hn hN) c2 c3 c4 c5 HST.out.law HST.out.below HST.out.size c0 c1 HST.out.rC HST.out.rR HST.out.rA HST.out.nf HST.out.nt

end Go.Proofs.Qxb6602859a
