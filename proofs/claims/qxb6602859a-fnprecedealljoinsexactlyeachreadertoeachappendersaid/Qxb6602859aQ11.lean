import Derived.Test.Qxb6602859aQ10
namespace Go.Proofs.Qxb6602859a
open Go.RowKit Kit
set_option linter.unusedVariables false
set_option linter.unusedSimpArgs false

/-- the two tables, while they are made -/
structure TB (w wr : World) (n ir ia : Nat) (fR fA : Nat → Bool) : Prop where
  rR : wr.rowIs ir 4 n (fun x => .bool (fR x))
  rA : wr.rowIs ia 4 n (fun x => .bool (fA x))
  kept : Kept (fun _ => False) w wr
  ge : w.heap.size ≤ ir
  lt : ir < ia

theorem TB.setR {w wr : World} {n ir ia : Nat} {fR fA g : Nat → Bool} (h : TB w wr n ir ia fR fA) (i : Nat) (e : ∀ j, (if j = i then true else fR j) = g j) : TB w (wr.setCell ⟨ir, i, none⟩ (.bool true)) n ir ia g fA :=
  ⟨(h.rR.set i _).congr (fun j hj => by
    rw [← e j]
    by_cases h : j = i
    · rw [if_pos h, if_pos h]
    · rw [if_neg h, if_neg h]), h.rA.setOther (by have := h.lt; simp; omega) _, h.kept.setCell (.inr h.ge) _, h.ge, h.lt⟩

theorem TB.setA {w wr : World} {n ir ia : Nat} {fR fA g : Nat → Bool} (h : TB w wr n ir ia fR fA) (i : Nat) (e : ∀ j, (if j = i then true else fA j) = g j) : TB w (wr.setCell ⟨ia, i, none⟩ (.bool true)) n ir ia fR g :=
  ⟨h.rR.setOther (by have := h.lt; simp; omega) _, (h.rA.set i _).congr (fun j hj => by
    rw [← e j]
    by_cases h : j = i
    · rw [if_pos h, if_pos h]
    · rw [if_neg h, if_neg h]), h.kept.setCell (.inr (by have := h.ge; have := h.lt; simp; omega)) _, h.ge, h.lt⟩

theorem memI_step (r : Nat → Nat) (k j : Nat) : (if j = r k then true else memI r k (j : Int)) = memI r (k + 1) (j : Int) := by
  simp only [memI]
  by_cases h : j = r k
  · subst h; simp
  · have : ¬ ((j : Int) = (r k : Int)) := by omega
    simp [h, this]

theorem TB.start (w : World) (n : Nat) : TB w ((w.alloc (.cells (madeCells #[.bool false] n) 4)).alloc (.cells (madeCells #[.bool false] n) 4)) n w.heap.size (w.heap.size + 1) (fun _ => false) (fun _ => false) := by
  have h0 := (World.rowIs_made w (.bool false) n 4).alloc (.cells (madeCells #[.bool false] n) 4)
  have h1 := World.rowIs_made (w.alloc (.cells (madeCells #[.bool false] n) 4)) (.bool false) n 4
  simp only [World.size_alloc] at h1
  exact ⟨h0, h1, Kept.of_below (((Below.refl w.heap.size w).alloc (Nat.le_refl _) _).alloc (by simp) _), Nat.le_refl _, by omega⟩

set_option maxHeartbeats 4000000 in
set_option maxRecDepth 100000 in
theorem seg14 (w0 w : World) (n N M cc fc tc kc nr na rc ac : Nat) (ca fa ta ka ra aa : Option Addr) (C : Nat → Bool) (f t k : Nat → Int) (r a : Nat → Nat) {x7 x8 x9 x10 x11 x12 x13 x14 x15 x16 x17 x18 x19 x20 x22 x23 x24 x25 x26 x27 x28 x29 x30 x31 x32 x33 x34 x35 x36 x37 x38 x39 x40 x41 x42 x43 x44 x45 x46 x47 x48 x49 x50 x51 x52 x53 x54 x55 x56 x57 x58 x59 x60 x61 x62 x63 x64 x65 x66 x67 x68 x69 x70 x71 x72 x73 x74 x75 x76 x77 x78 x79 x80 x81 x82 x83 x84 x85 x86 x87 x88 x89 x90 x91 x92 x93 x94 x95 x96 x97 x98 x99 x100 x101 x102 x103 x104 x105 x106 x107 x108 x109 x110 x111 x112 x113 x114 x115 x116 x117 x118 x119 x120 x121 x122 x123 x124 x125 x126 x127 x128 x129 x130 x131 x132 x133 x134 x135 x136 x137 x138 x139 x140 x141 x142 x143 x144 x145 x146 x147 x148 x149 x150 x151 x152 x153 x154 x155 x156 x157 x158 x159 x160 x161 x162 x163 x164 x165 x166 x167 x168 x169 x170 x171 x172 x173 x174 x175 x176 x177 x178 x179 x180 x181 x182 x183 x184 x185 x186 x187 x188 x189 x190 x191 x192 x193 x194 x195 x196 x197 x198 x199 x200 x201 x202 x203 x204 x205 x206 x207 x208 x209 x210 x211 x212 x213 x214 x215 x216 x217 x218 x219 x220 x221 x222 x223 x224 x225 x226 x227 x228 x229 x230 x231 x232 x233 x234 x235 x236 x237 x238 x239 x240 x241 x242 x243 x244 x245 x246 x247 x248 x249 x250 x251 x252 x253 x254 x255 x256 x257 x258 x259 x260 x261 x262 x263 x264 x265 x266 x267 x268 x269 x270 x271 x272 x273 x274 x275 x276 x277 x278 x279 x280 x281 x282 x283 x284 x285 x286 x287 x288 x289 x290 x291 x292 x293 x294 x295 x296 x297 x298 x299 x300 x301 x302 x303 x304 x305 x306 x307 x308 x309 x310 x311 x312 x313 x314 x315 x316 x317 x318 x319 x320 x321 x322 x323 x324 x325 x326 x327 x328 x329 x330 x331 x332 x333 x334 x335 x336 x337 x338 x339 x340 x341 x342 x343 x344 x345 x346 x347 x348 x349 x350 x351 x352 x353 x354 x355 x356 x357 x358 x359 x360 x361 x362 x363 x364 x365 x366 x367 x368 x369 x370 x371 x372 x373 x374 x375 x376 x377 x378 x379 x380 x381 x382 x383 x384 x385 x386 x387 x388 x389 x390 x391 x392 x393 x394 x395 x396 x397 x398 x399 x400 x401 x402 x403 x404 x405 x406 x407 x408 x409 x410 x411 x412 x413 x414 x415 x416 x417 x418 x419 x420 x421 x422 x423 x424 x425 x426 x427 x428 x429 x430 x431 x432 x433 x434 x435 x436 x437 x438 x439 x440 x441 x442 x443 x444 x445 x446 x447 x448 x449 x450 x451 x452 x453 x454 x455 x456 x457 x458 x459 x460 x461 x462 x463 x464 x465 x466 x467 x468 x469 x470 x471 x472 x473 x474 x475 x476 x477 x478 x479 x480 x481 x482 x483 x484 x485 x486 x487 x488 x489 x490 x491 x492 x493 x494 x495 x496 x497 x498 x499 x500 x501 x502 x503 x504 x505 x506 x507 x508 x509 x510 x511 x512 x513 x514 x515 x516 x517 x518 x519 x520 x521 x522 x523 x524 x525 x526 x527 x528 x529 x530 x531 x532 x533 x534 x535 x536 x537 x538 x539 x540 x541 x542 x543 x544 x545 x546 x547 x548 x549 x550 x551 x552 x553 x554 x555 x556 x557 x558 x559 x560 x561 x562 x563 x564 x565 x566 x567 x568 x569 x570 x571 x572 x573 x574 x575 x576 x577 x578 x579 x580 x581 x582 x583 x584 x585 x586 x587 x588 x589 x590 x591 x592 x593 x594 x595 x596 x597 x598 x599 x600 x601 x602 x603 x604 x605 x606 x607 x608 x609 x610 x611 x612 : Value}
   (hinp : Inp w n M nr na cc fc tc kc rc ac ca fa ta ka ra aa C f t k r a) (hn4 : n ≤ 4096) (hM : M ≤ 65536) (hnr : nr ≤ 4096) (hna : na ≤ 4096) (hn : n ≤ N) (hN : N ≤ 2147483647) (hr : ∀ i, i < nr → r i < n) (ha : ∀ i, i < na → a i < n)
   (hB : Below w0.heap.size w0 w) (hB0 : w0.heap.size ≤ w.heap.size) :
  Code.wp Try.prog (restF Try.f7 14) (bodyPost Try.prog Try.f7 (Post7 w0)) ⟨#[.slice ca n cc, .int .i64 (N : Int), .slice fa M fc, .slice ta M tc, .slice ka M kc, .slice ra nr rc, .slice aa na ac, x7, x8, x9, x10, x11, x12, x13, x14, x15, x16, x17, x18, x19, x20, .int .i64 (n : Int), x22, x23, x24, x25, x26, x27, x28, x29, x30, x31, x32, x33, x34, x35, x36, x37, x38, x39, x40, x41, x42, x43, x44, x45, x46, x47, x48, x49, x50, x51, x52, x53, x54, x55, x56, x57, x58, x59, x60, x61, x62, x63, x64, x65, x66, x67, x68, x69, x70, x71, x72, x73, x74, x75, x76, x77, x78, x79, x80, x81, x82, x83, x84, x85, x86, x87, x88, x89, x90, x91, x92, x93, x94, x95, x96, x97, x98, x99, x100, x101, x102, x103, x104, x105, x106, x107, x108, x109, x110, x111, x112, x113, x114, x115, x116, x117, x118, x119, x120, x121, x122, x123, x124, x125, x126, x127, x128, x129, x130, x131, x132, x133, x134, x135, x136, x137, x138, x139, x140, x141, x142, x143, x144, x145, x146, x147, x148, x149, x150, x151, x152, x153, x154, x155, x156, x157, x158, x159, x160, x161, x162, x163, x164, x165, x166, x167, x168, x169, x170, x171, x172, x173, x174, x175, x176, x177, x178, x179, x180, x181, x182, x183, x184, x185, x186, x187, x188, x189, x190, x191, x192, x193, x194, x195, x196, x197, x198, x199, x200, x201, x202, x203, x204, x205, x206, x207, x208, x209, x210, x211, x212, x213, x214, x215, x216, x217, x218, x219, x220, x221, x222, x223, x224, x225, x226, x227, x228, x229, x230, x231, x232, x233, x234, x235, x236, x237, x238, x239, x240, x241, x242, x243, x244, x245, x246, x247, x248, x249, x250, x251, x252, x253, x254, x255, x256, x257, x258, x259, x260, x261, x262, x263, x264, x265, x266, x267, x268, x269, x270, x271, x272, x273, x274, x275, x276, x277, x278, x279, x280, x281, x282, x283, x284, x285, x286, x287, x288, x289, x290, x291, x292, x293, x294, x295, x296, x297, x298, x299, x300, x301, x302, x303, x304, x305, x306, x307, x308, x309, x310, x311, x312, x313, x314, x315, x316, x317, x318, x319, x320, x321, x322, x323, x324, x325, x326, x327, x328, x329, x330, x331, x332, x333, x334, x335, x336, x337, x338, x339, x340, x341, x342, x343, x344, x345, x346, x347, x348, x349, x350, x351, x352, x353, x354, x355, x356, x357, x358, x359, x360, x361, x362, x363, x364, x365, x366, x367, x368, x369, x370, x371, x372, x373, x374, x375, x376, x377, x378, x379, x380, x381, x382, x383, x384, x385, x386, x387, x388, x389, x390, x391, x392, x393, x394, x395, x396, x397, x398, x399, x400, x401, x402, x403, x404, x405, x406, x407, x408, x409, x410, x411, x412, x413, x414, x415, x416, x417, x418, x419, x420, x421, x422, x423, x424, x425, x426, x427, x428, x429, x430, x431, x432, x433, x434, x435, x436, x437, x438, x439, x440, x441, x442, x443, x444, x445, x446, x447, x448, x449, x450, x451, x452, x453, x454, x455, x456, x457, x458, x459, x460, x461, x462, x463, x464, x465, x466, x467, x468, x469, x470, x471, x472, x473, x474, x475, x476, x477, x478, x479, x480, x481, x482, x483, x484, x485, x486, x487, x488, x489, x490, x491, x492, x493, x494, x495, x496, x497, x498, x499, x500, x501, x502, x503, x504, x505, x506, x507, x508, x509, x510, x511, x512, x513, x514, x515, x516, x517, x518, x519, x520, x521, x522, x523, x524, x525, x526, x527, x528, x529, x530, x531, x532, x533, x534, x535, x536, x537, x538, x539, x540, x541, x542, x543, x544, x545, x546, x547, x548, x549, x550, x551, x552, x553, x554, x555, x556, x557, x558, x559, x560, x561, x562, x563, x564, x565, x566, x567, x568, x569, x570, x571, x572, x573, x574, x575, x576, x577, x578, x579, x580, x581, x582, x583, x584, x585, x586, x587, x588, x589, x590, x591, x592, x593, x594, x595, x596, x597, x598, x599, x600, x601, x602, x603, x604, x605, x606, x607, x608, x609, x610, x611, x612], []⟩ w := by
  have mk := fun z => run_make_row' (P := Try.prog) 35 4 (.bool false) 1 Try.underlying35 Try.info4 rfl .i64 .i64 n (by omega) (by omega) z
  have HI := hid hinp
  have HHR := hid hr
  have HHA := hid ha
  have HB := hid hB
  have HB0 := hid hB0
  have d1 := hinp.rR.slice.1
  have d2 := hinp.rR.slice.2.1
  have d3 := hinp.rA.slice.1
  have d4 := hinp.rA.slice.2.1
  have d5 := hinp.rC.slice.1
  have d6 := hinp.rC.slice.2.1
  have HT0 := hid (TB.start w n)
  clear hinp hr ha hB hB0
  rw [rest7_14]
  conv => arg 2; arg 1; whnf
  go_wp2
  rw [rest7_15]
  conv => arg 2; arg 1; whnf
  go_wp2
  rw [rest7_16]
  conv => arg 2; arg 1; whnf
  generalize (w.alloc (.cells (madeCells #[.bool false] n) 4)).alloc (.cells (madeCells #[.bool false] n) 4) = w1 at HT0 ⊢
  generalize eia : w.heap.size + 1 = ia at HT0 ⊢
  generalize eir : w.heap.size = ir at HT0 ⊢
  clear eia eir mk
  go_wp2
  go_loopw [26] (fun i wr => ∃ j : Nat, j ≤ nr ∧ i = .int .i64 (j : Int) ∧ Hid (TB w wr n ir ia (fun x => memI r j (x : Int)) (fun _ => false))) (fun i _ => nr - (intOf i).toNat)
  case atStart => exact ⟨0, Nat.zero_le _, rfl, HT0⟩
  case round =>
    clear HT0
    obtain ⟨j, hj, rfl, HT⟩ := hrel
    by_cases hlt : j < nr
    · obtain ⟨g, rfl, cr⟩ := HI.out.rR.slice.2.2 j hlt
      have cr := HT.out.kept.cell cr (fun h => h)
      have hrj := HHR.out j hlt
      have cc1 := HT.out.rR.cell (i := r j) hrj
      have ff := HT.out.rR.frozen (r j)
      have i1 : (r j : Int) < (n : Int) := by omega
      generalize memI r j ((r j : Nat) : Int) = bv at cc1
      go_wp2
      go_roundw
      case rel => exact ⟨j + 1, by omega, by go_num, hid (HT.out.setR (r j) (memI_step r j))⟩
      case measure => simp [intOf]; omega
    · obtain rfl : nr = j := by omega
      go_wp2
      rw [rest7_17]
      conv => arg 2; arg 1; whnf
      go_wp2
      go_loopw [27] (fun i wr => ∃ j : Nat, j ≤ na ∧ i = .int .i64 (j : Int) ∧ Hid (TB w wr n ir ia (fun x => memI r nr (x : Int)) (fun x => memI a j (x : Int)))) (fun i _ => na - (intOf i).toNat)
      case atStart => exact ⟨0, Nat.zero_le _, rfl, HT⟩
      case round =>
        clear HT hj hlt
        obtain ⟨j, hj, rfl, HT⟩ := hrel
        by_cases hlt : j < na
        · obtain ⟨g, rfl, cr⟩ := HI.out.rA.slice.2.2 j hlt
          have cr := HT.out.kept.cell cr (fun h => h)
          have hrj := HHA.out j hlt
          have cc1 := HT.out.rA.cell (i := a j) hrj
          have ff := HT.out.rA.frozen (a j)
          have i1 : (a j : Int) < (n : Int) := by omega
          generalize memI a j ((a j : Nat) : Int) = bv at cc1
          go_wp2
          go_roundw
          case rel => exact ⟨j + 1, by omega, by go_num, hid (HT.out.setA (a j) (memI_step a j))⟩
          case measure => simp [intOf]; omega
        · obtain rfl : na = j := by omega
          obtain ⟨w2, rfl⟩ : ∃ w2, w2 = wr := ⟨_, rfl⟩
          go_wp2
          rw [rest7_18]
          conv => arg 2; arg 1; whnf
          go_wp2
          go_loopw [28] (fun i wr => ∃ j : Nat, j ≤ n ∧ i = .int .i64 (j : Int) ∧ w2 = wr ∧ Hid (∀ x, x < j → memI r nr (x : Int) = true → memI a na (x : Int) = true → C x = true)) (fun i _ => n - (intOf i).toNat)
          case atStart => exact ⟨0, Nat.zero_le _, rfl, rfl, hid (fun x hx => by omega)⟩
          case round =>
            clear hj hlt
            obtain ⟨j, hj, rfl, rfl, HP⟩ := hrel
            by_cases hlt : j < n
            · obtain ⟨g, rfl, cC⟩ := HI.out.rC.slice.2.2 j hlt
              have cC := HT.out.kept.cell cC (fun h => h)
              have c1 := HT.out.rR.cell (i := j) hlt
              have c2 := HT.out.rA.cell (i := j) hlt
              cases m1 : memI r nr (j : Int)
              · rw [m1] at c1
                go_wp2
                go_roundw
                case rel =>
                  refine ⟨j + 1, by omega, by go_num, trivial, hid (fun x hx h1 h2 => ?_)⟩
                  rcases Nat.lt_or_ge x j with h | h
                  · exact HP.out x h h1 h2
                  · obtain rfl : x = j := by omega
                    rw [m1] at h1; cases h1
                case measure => simp [intOf]; omega
              · rw [m1] at c1
                cases m2 : memI a na (j : Int)
                · rw [m2] at c2
                  go_wp2
                  go_roundw
                  case rel =>
                    refine ⟨j + 1, by omega, by go_num, trivial, hid (fun x hx h1 h2 => ?_)⟩
                    rcases Nat.lt_or_ge x j with h | h
                    · exact HP.out x h h1 h2
                    · obtain rfl : x = j := by omega
                      rw [m2] at h2; cases h2
                  case measure => simp [intOf]; omega
                · rw [m2] at c2
                  cases m3 : C j
                  · rw [m3] at cC
                    go_wp2
                    go_ret
                    exact ⟨rfl, HT.out.kept.below HB.out HB0.out (fun g h => h.elim)⟩
                  · rw [m3] at cC
                    go_wp2
                    go_roundw
                    case rel =>
                      refine ⟨j + 1, by omega, by go_num, trivial, hid (fun x hx h1 h2 => ?_)⟩
                      rcases Nat.lt_or_ge x j with h | h
                      · exact HP.out x h h1 h2
                      · obtain rfl : x = j := by omega
                        exact m3
                    case measure => simp [intOf]; omega
            · obtain rfl : n = j := by omega
              go_wp2
              exact seg19 w0 w2 n N M ir ia cc fc tc kc nr na rc ac ca fa ta ka ra aa C f t k r a (HI.out.later HT.out.kept) hn4 hM hnr hna hn hN HHR.out HHA.out HP.out HT.out.rR HT.out.rA (HT.out.kept.below HB.out HB0.out (fun g h => h.elim)) (Nat.le_trans HB0.out HT.out.kept.size)

end Go.Proofs.Qxb6602859a
