import Derived.Test.Qxb6602859aQ2
namespace Go.Proofs.Qxb6602859a
open Go.RowKit Kit
set_option linter.unusedVariables false
set_option linter.unusedSimpArgs false

def Post7 (w0 : World) (e : Ending) (w' : World) : Prop := e = .returned (.bool true) ∧ Below w0.heap.size w0 w'

/-- between two searches -/
def Out7 (n sb qb l : Nat) (w wr : World) (k : Nat) : Prop :=
  ∃ (seen : Nat → Int) (xs : List Value), wr.rowIs sb 3 (n + 1) (fun y => .int .i64 (seen y)) ∧ wr.ownsRow qb 21 1 (.slice (some ⟨qb, 0, none⟩) l (n + 1)) l xs ∧ (∀ y, seen y ≤ (k : Int)) ∧ Kept (fun _ => False) w wr

/-- the first h of the queue, and the start, are done -/
structure Clo (off ad : Nat → Nat) (k h : Nat) (L : List Nat) : Prop where
  start : ∀ y, Sx off ad k y → y ∈ L
  upto : ∀ i, i < h → ∀ y, Sx off ad (L.getD i 0) y → y ∈ L

theorem Clo.step {off ad : Nat → Nat} {k h : Nat} {L : List Nat} (c : Clo off ad k h L) (hs : ∀ y, Sx off ad (L.getD h 0) y → y ∈ L) : Clo off ad k (h + 1) L :=
  ⟨c.start, fun i hi => by
    rcases Nat.lt_or_ge i h with h1 | h1
    · exact c.upto i h1
    · obtain rfl : i = h := by omega
      exact hs⟩

theorem getD_push {L : List Nat} {i y : Nat} (h : i < L.length) : (L ++ [y]).getD i 0 = L.getD i 0 := by
  simp [List.getD_eq_getElem?_getD, List.getElem?_append_left h]

theorem closed_push {off ad : Nat → Nat} {k h y : Nat} {L : List Nat} (c : Clo off ad k h L) (hl : h ≤ L.length) : Clo off ad k h (L ++ [y]) :=
  ⟨fun z hz => List.mem_append_left _ (c.start z hz), fun i hi z hz => by
    rw [getD_push (by omega)] at hz
    exact List.mem_append_left _ (c.upto i hi z hz)⟩

theorem upto_in {ad : Nat → Nat} {a j : Nat} {L : List Nat} (h : ∀ e', a ≤ e' → e' < j → ad e' ∈ L) (hm : ad j ∈ L) : ∀ e', a ≤ e' → e' < j + 1 → ad e' ∈ L := by
  intro e' h1 h2
  rcases Nat.lt_or_ge e' j with h3 | h3
  · exact h e' h1 h3
  · obtain rfl : e' = j := by omega
    exact hm

theorem upto_push {ad : Nat → Nat} {a j : Nat} {L : List Nat} (h : ∀ e', a ≤ e' → e' < j → ad e' ∈ L) : ∀ e', a ≤ e' → e' < j + 1 → ad e' ∈ L ++ [ad j] :=
  upto_in (fun e' h1 h2 => List.mem_append_left _ (h e' h1 h2)) (by simp)

theorem bf_own {off ad : Nat → Nat} {n sb qb l : Nat} {w2 wr : World} {k : Nat} {L : List Nat} {seen : Nat → Int} (h : BF off ad n sb qb w2 wr k L seen) (y : Nat) (o : Obj) (hl : L.length = l) :
    ((wr.setCell ⟨sb, y, none⟩ (.int .i64 ((k : Int) + 1))).alloc o).ownsRow qb 21 1 (.slice (some ⟨qb, 0, none⟩) l (n + 1)) l (cells32 L) := by
  have hq : qb < wr.heap.size := by
    obtain ⟨_, ⟨e, _⟩ | ⟨g, cap, cur, e, _, hg, _⟩⟩ := h.own
    · cases e
    · cases e; exact (Array.getElem?_eq_some_iff.1 hg).1
  rw [← hl]
  refine own21_same h.own ?_
  rw [Deep.blk_alloc_lt _ _ _ (by simp [World.setCell]; exact hq), Deep.blk_setCell_other _ _ _ _ (by have := h.lt; simp; omega)]

theorem bf_new (wr : World) (sb y : Nat) (v : Int) (x : Value) (t : TypeId) : ∀ j u, [x][j]? = some u → ((wr.setCell ⟨sb, y, none⟩ (.int .i64 v)).alloc (.cells #[x] t)).cell? ((⟨wr.heap.size, 0, none⟩ : Addr).add j) = some u := by
  have := cell_one_new (wr.setCell ⟨sb, y, none⟩ (.int .i64 v)) x t
  simpa [World.setCell] using this

theorem bf_len {w5 : World} {qb l n : Nat} {L : List Nat} {v : Value} (h : w5.ownsRow qb 21 1 (.slice (some ⟨qb, 0, none⟩) (l + 1) (n + 1)) (l + 1) (cells32 L ++ [v])) (hl : L.length = l) :
    w5.ownsRow qb 21 1 (.slice (some ⟨qb, 0, none⟩) (L.length + 1) (n + 1)) (L.length + 1) (cells32 L ++ [v]) := by rw [hl]; exact h

set_option maxHeartbeats 4000000 in
set_option maxRecDepth 100000 in
theorem seg35 (w0 w : World) (n m ir ia cb ab cc : Nat) (ca : Option Addr) (C R A : Nat → Bool) (off ad : Nat → Nat) {x1 x2 x3 x4 x5 x6 x7 x8 x9 x10 x11 x12 x13 x14 x15 x16 x17 x18 x19 x20 x22 x23 x26 x27 x28 x29 x30 x31 x32 x33 x34 x35 x36 x37 x39 x40 x42 x43 x44 x45 x46 x47 x48 x49 x50 x51 x52 x53 x54 x55 x56 x57 x58 x59 x60 x61 x62 x63 x64 x65 x66 x67 x68 x69 x70 x71 x72 x73 x74 x75 x76 x77 x78 x79 x80 x81 x82 x83 x84 x85 x86 x87 x88 x89 x90 x91 x92 x93 x94 x95 x96 x97 x98 x99 x100 x101 x102 x103 x104 x105 x106 x107 x108 x109 x110 x111 x112 x113 x114 x115 x116 x117 x118 x119 x120 x121 x122 x123 x124 x125 x126 x127 x128 x129 x130 x131 x132 x133 x134 x135 x136 x137 x138 x139 x140 x141 x142 x143 x144 x145 x146 x147 x148 x149 x150 x151 x152 x153 x154 x155 x156 x157 x158 x159 x160 x161 x162 x163 x164 x165 x166 x167 x168 x169 x170 x171 x172 x173 x174 x175 x176 x177 x178 x179 x180 x181 x182 x183 x184 x185 x186 x187 x188 x189 x190 x191 x192 x193 x194 x195 x196 x197 x198 x199 x200 x201 x202 x203 x204 x205 x206 x207 x208 x209 x210 x211 x212 x213 x214 x215 x216 x217 x218 x219 x220 x221 x222 x223 x224 x225 x226 x227 x228 x229 x230 x231 x232 x233 x234 x235 x236 x237 x238 x239 x240 x241 x242 x243 x244 x245 x246 x247 x248 x249 x250 x251 x252 x253 x254 x255 x256 x257 x258 x259 x260 x261 x262 x263 x264 x265 x266 x267 x268 x269 x270 x271 x272 x273 x274 x275 x276 x277 x278 x279 x280 x281 x282 x283 x284 x285 x286 x287 x288 x289 x290 x291 x292 x293 x294 x295 x296 x297 x298 x299 x300 x301 x302 x303 x304 x305 x306 x307 x308 x309 x310 x311 x312 x313 x314 x315 x316 x317 x318 x319 x320 x321 x322 x323 x324 x325 x326 x327 x328 x329 x330 x331 x332 x333 x334 x335 x336 x337 x338 x339 x340 x341 x342 x343 x344 x345 x346 x347 x348 x349 x350 x351 x352 x353 x354 x355 x356 x357 x358 x359 x360 x361 x362 x363 x364 x365 x366 x367 x368 x369 x370 x371 x372 x373 x374 x375 x376 x377 x378 x379 x380 x381 x382 x383 x384 x385 x386 x387 x388 x389 x390 x391 x392 x393 x394 x395 x396 x397 x398 x399 x400 x401 x402 x403 x404 x405 x406 x407 x408 x409 x410 x411 x412 x413 x414 x415 x416 x417 x418 x419 x420 x421 x422 x423 x424 x425 x426 x427 x428 x429 x430 x431 x432 x433 x434 x435 x436 x437 x438 x439 x440 x441 x442 x443 x444 x445 x446 x447 x448 x449 x450 x451 x452 x453 x454 x455 x456 x457 x458 x459 x460 x461 x462 x463 x464 x465 x466 x467 x468 x469 x470 x471 x472 x473 x474 x475 x476 x477 x478 x479 x480 x481 x482 x483 x484 x485 x486 x487 x488 x489 x490 x491 x492 x493 x494 x495 x496 x497 x498 x499 x500 x501 x502 x503 x504 x505 x506 x507 x508 x509 x510 x511 x512 x513 x514 x515 x516 x517 x518 x519 x520 x521 x522 x523 x524 x525 x526 x527 x528 x529 x530 x531 x532 x533 x534 x535 x536 x537 x538 x539 x540 x541 x542 x543 x544 x545 x546 x547 x548 x549 x550 x551 x552 x553 x554 x555 x556 x557 x558 x559 x560 x561 x562 x563 x564 x565 x566 x567 x568 x569 x570 x571 x572 x573 x574 x575 x576 x577 x578 x579 x580 x581 x582 x583 x584 x585 x586 x587 x588 x589 x590 x591 x592 x593 x594 x595 x596 x597 x598 x599 x600 x601 x602 x603 x604 x605 x606 x607 x608 x609 x610 x611 x612 : Value}
   (hn : n ≤ 4096) (hm : m ≤ 65536) (hoff : ∀ x, x ≤ n → off x ≤ off (x + 1)) (hoffm : ∀ x, x ≤ n + 1 → off x ≤ m) (had : ∀ e, e < m → ad e ≤ n)
   (hlaw : ∀ x, x < n → ∀ y, y < n → y ≠ x → (Relation.TransGen (Sx off ad) x y ↔ (R x && A y && C x && C y) = true))
   (hB : Below w0.heap.size w0 w) (hB0 : w0.heap.size ≤ w.heap.size) (hcc : n ≤ cc) (hcc2 : cc ≤ 9223372036854775807)
   (hC : Row w 4 (.slice ca n cc) n (fun i => .bool (C i))) (rR : w.rowIs ir 4 n (fun i => .bool (R i))) (rA : w.rowIs ia 4 n (fun i => .bool (A i)))
   (rO : w.rowIs cb 21 (n + 2) (fun i => .int .i32 (off i : Int))) (rD : w.rowIs ab 21 m (fun i => .int .i32 (ad i : Int))) :
  Code.wp Try.prog (restF Try.f7 35) (bodyPost Try.prog Try.f7 (Post7 w0)) ⟨#[.slice ca n cc, x1, x2, x3, x4, x5, x6, x7, x8, x9, x10, x11, x12, x13, x14, x15, x16, x17, x18, x19, x20, .int .i64 (n : Int), x22, x23, .slice (some ⟨ir, 0, none⟩) n n, .slice (some ⟨ia, 0, none⟩) n n, x26, x27, x28, x29, x30, x31, x32, x33, x34, x35, x36, x37, .slice (some ⟨cb, 0, none⟩) (n + 2) (n + 2), x39, x40, .slice (some ⟨ab, 0, none⟩) m m, x42, x43, x44, x45, x46, x47, x48, x49, x50, x51, x52, x53, x54, x55, x56, x57, x58, x59, x60, x61, x62, x63, x64, x65, x66, x67, x68, x69, x70, x71, x72, x73, x74, x75, x76, x77, x78, x79, x80, x81, x82, x83, x84, x85, x86, x87, x88, x89, x90, x91, x92, x93, x94, x95, x96, x97, x98, x99, x100, x101, x102, x103, x104, x105, x106, x107, x108, x109, x110, x111, x112, x113, x114, x115, x116, x117, x118, x119, x120, x121, x122, x123, x124, x125, x126, x127, x128, x129, x130, x131, x132, x133, x134, x135, x136, x137, x138, x139, x140, x141, x142, x143, x144, x145, x146, x147, x148, x149, x150, x151, x152, x153, x154, x155, x156, x157, x158, x159, x160, x161, x162, x163, x164, x165, x166, x167, x168, x169, x170, x171, x172, x173, x174, x175, x176, x177, x178, x179, x180, x181, x182, x183, x184, x185, x186, x187, x188, x189, x190, x191, x192, x193, x194, x195, x196, x197, x198, x199, x200, x201, x202, x203, x204, x205, x206, x207, x208, x209, x210, x211, x212, x213, x214, x215, x216, x217, x218, x219, x220, x221, x222, x223, x224, x225, x226, x227, x228, x229, x230, x231, x232, x233, x234, x235, x236, x237, x238, x239, x240, x241, x242, x243, x244, x245, x246, x247, x248, x249, x250, x251, x252, x253, x254, x255, x256, x257, x258, x259, x260, x261, x262, x263, x264, x265, x266, x267, x268, x269, x270, x271, x272, x273, x274, x275, x276, x277, x278, x279, x280, x281, x282, x283, x284, x285, x286, x287, x288, x289, x290, x291, x292, x293, x294, x295, x296, x297, x298, x299, x300, x301, x302, x303, x304, x305, x306, x307, x308, x309, x310, x311, x312, x313, x314, x315, x316, x317, x318, x319, x320, x321, x322, x323, x324, x325, x326, x327, x328, x329, x330, x331, x332, x333, x334, x335, x336, x337, x338, x339, x340, x341, x342, x343, x344, x345, x346, x347, x348, x349, x350, x351, x352, x353, x354, x355, x356, x357, x358, x359, x360, x361, x362, x363, x364, x365, x366, x367, x368, x369, x370, x371, x372, x373, x374, x375, x376, x377, x378, x379, x380, x381, x382, x383, x384, x385, x386, x387, x388, x389, x390, x391, x392, x393, x394, x395, x396, x397, x398, x399, x400, x401, x402, x403, x404, x405, x406, x407, x408, x409, x410, x411, x412, x413, x414, x415, x416, x417, x418, x419, x420, x421, x422, x423, x424, x425, x426, x427, x428, x429, x430, x431, x432, x433, x434, x435, x436, x437, x438, x439, x440, x441, x442, x443, x444, x445, x446, x447, x448, x449, x450, x451, x452, x453, x454, x455, x456, x457, x458, x459, x460, x461, x462, x463, x464, x465, x466, x467, x468, x469, x470, x471, x472, x473, x474, x475, x476, x477, x478, x479, x480, x481, x482, x483, x484, x485, x486, x487, x488, x489, x490, x491, x492, x493, x494, x495, x496, x497, x498, x499, x500, x501, x502, x503, x504, x505, x506, x507, x508, x509, x510, x511, x512, x513, x514, x515, x516, x517, x518, x519, x520, x521, x522, x523, x524, x525, x526, x527, x528, x529, x530, x531, x532, x533, x534, x535, x536, x537, x538, x539, x540, x541, x542, x543, x544, x545, x546, x547, x548, x549, x550, x551, x552, x553, x554, x555, x556, x557, x558, x559, x560, x561, x562, x563, x564, x565, x566, x567, x568, x569, x570, x571, x572, x573, x574, x575, x576, x577, x578, x579, x580, x581, x582, x583, x584, x585, x586, x587, x588, x589, x590, x591, x592, x593, x594, x595, x596, x597, x598, x599, x600, x601, x602, x603, x604, x605, x606, x607, x608, x609, x610, x611, x612], []⟩ w := by
  have mk1 : ∀ z, (Instr.makeSlice 36 (.int .i64 ((n : Int) + 1)) (.int .i64 ((n : Int) + 1))).run Try.prog z = .ok (.slice (some ⟨z.heap.size, 0, none⟩) (n + 1) (n + 1)) (z.alloc (.cells (madeCells #[.int .i64 0] (n + 1)) 3)) :=
    fun z => run_make_row' (P := Try.prog) 36 3 (.int .i64 0) 8 Try.underlying36 Try.info3 rfl .i64 .i64 (n + 1) (by omega) (by omega) z
  obtain ⟨i0, hi, hz0, hz1, hz2⟩ := info_parts Try.info21
  have HC := hid hC
  have HR := hid rR
  have HA := hid rA
  have HO := hid rO
  have HD := hid rD
  have HLAW := hid hlaw
  have HOFF := hid hoff
  have HOFM := hid hoffm
  have HAD := hid had
  have HB := hid hB
  have HB0 := hid hB0
  clear hC rR rA rO rD hlaw hoff hoffm had hB hB0
  rw [rest7_35]
  conv => arg 2; arg 1; whnf
  go_wp2
  rw [rest7_36]
  conv => arg 2; arg 1; whnf
  go_wp2_with (refine wpList_make_own _ rfl _ _ 22 rfl (w.heap.size + 1) 21 i0 (.int .i32 0) 1 Try.underlying22 hi hz0 hz1 .i64 .i64 _ (n + 1) rfl rfl (by omega) (by rw [hz2]; omega) (by unfold maxLen; omega) (by simp) ?_; intro w3 hown hgr)
  rw [rest7_37]
  conv => arg 2; arg 1; whnf
  have hk3 : Kept (fun _ => False) w w3 := (Kept.of_below ((Below.refl w.heap.size w).alloc (Nat.le_refl _) _)).trans (Kept.grown hgr (fun g e => by cases e))
  have hs3 := ((World.rowIs_made w (.int .i64 0) (n + 1) 3).of_block (hgr.block w.heap.size (by simp) (fun e => by cases e)))
  have hown' : w3.ownsRow (w.heap.size + 1) 21 1 (.slice (some ⟨w.heap.size + 1, 0, none⟩) 0 (n + 1)) 0 [] := by simpa using hown
  generalize eqb : w.heap.size + 1 = qb at hown' ⊢
  generalize esb : w.heap.size = sb at hs3 ⊢
  have hsq : sb < qb := by omega
  have hge : w.heap.size ≤ sb := by omega
  have H3 := hid hk3
  have HS3 := hid hs3
  have HO3 := hid hown'
  clear hk3 hs3 hown' hown hgr eqb esb mk1
  go_wp2
  go_loopw [47, 48] (fun q x wr => ∃ k l : Nat, k ≤ n ∧ l ≤ n + 1 ∧ q = .slice (some ⟨qb, 0, none⟩) l (n + 1) ∧ x = .int .i64 (k : Int) ∧ Hid (Out7 n sb qb l w wr k)) (fun _ x _ => n - (intOf x).toNat)
  case atStart => exact ⟨0, 0, Nat.zero_le _, Nat.zero_le _, rfl, rfl, hid ⟨_, _, HS3.out, HO3.out, fun y => Int.le_refl _, H3.out⟩⟩
  case round =>
    obtain ⟨k, l0, hk, hl0, rfl, rfl, HS⟩ := hrel
    obtain ⟨seen0, xs0, hr0, ho0, hle0, hk0⟩ := HS.out
    have HBF := hid (BF.start (off := off) (ad := ad) hr0 ho0 hle0 hk0 hsq hge)
    have HK0 := hid hk0
    clear HS hr0 ho0 hle0 hk0
    by_cases hlt : k < n
    · have ck := HK0.out.cell (HO.out.cell (i := k) (by omega)) (fun h => h)
      have hok := HOFF.out k (by omega)
      have hokm := HOFM.out (k + 1) (by omega)
      obtain ⟨wk, rfl⟩ : ∃ wk, wk = wr := ⟨_, rfl⟩
      go_wp2
      go_loopw [47, 50] (fun q e wr => ∃ l j : Nat, l ≤ n + 1 ∧ off k ≤ j ∧ j ≤ off (k + 1) ∧ q = .slice (some ⟨qb, 0, none⟩) l (n + 1) ∧ e = .int .i32 (j : Int) ∧ Hid (∃ L seen, L.length = l ∧ BF off ad n sb qb w wr k L seen ∧ ∀ e', off k ≤ e' → e' < j → ad e' ∈ L)) (fun _ e _ => off (k + 1) - (intOf e).toNat)
      case atStart => exact ⟨0, off k, by omega, by omega, hok, rfl, rfl, hid ⟨[], _, rfl, HBF.out, fun e' h1 h2 => by omega⟩⟩
      case round =>
        obtain ⟨l, j, hl, hj1, hj2, rfl, rfl, H⟩ := hrel
        obtain ⟨L, seen, ell, hbf, hpre⟩ := H.out
        have HH := hid (And.intro hbf hpre)
        have HLL := hid ell
        clear H ell hbf hpre
        by_cases hlj : j < off (k + 1)
        · have hadj := HAD.out j (by have := HOFM.out (k + 1) (by omega); omega)
          have cd := HH.out.1.kept.cell (HD.out.cell (i := j) (by have := HOFM.out (k + 1) (by omega); omega)) (fun h => h)
          have co := HH.out.1.kept.cell (HO.out.cell (i := k + 1) (by omega)) (fun h => h)
          have cs := HH.out.1.row.cell (i := ad j) (by omega)
          have fs := HH.out.1.row.frozen (ad j)
          have i1 : (j : Int) < (m : Int) := by have := HOFM.out (k + 1) (by omega); omega
          by_cases hmem : ad j ∈ L
          · rw [(HH.out.1.is (ad j) hadj).2 hmem] at cs
            go_wp2
            go_roundw
            case rel =>
              exact ⟨l, j + 1, hl, by omega, by omega, rfl, by go_num, hid ⟨L, seen, HLL.out, HH.out.1, fun e' h1 h2 => upto_in HH.out.2 hmem e' h1 h2⟩⟩
            case measure => simp [intOf]; omega
          · have q : (seen (ad j) == (k : Int) + 1) = false := by
              have := HH.out.1.is (ad j) hadj
              simp
              exact fun e => hmem (this.1 e)
            have hl2 : l + 1 ≤ n + 1 := by
              have := nodup_len (n + 1) (ad j :: L) (List.nodup_cons.2 ⟨hmem, HH.out.1.nodup⟩) (fun x hx => by
                rcases List.mem_cons.1 hx with e | e
                · omega
                · exact HH.out.1.bound x e)
              have hlen := HLL.out
              simp at this; omega
            have HOWN := hid (bf_own HH.out.1 (ad j) (.cells #[.int .i32 (ad j : Int)] 21) HLL.out)
            have HNEW := hid (bf_new wr sb (ad j) ((k : Int) + 1) (.int .i32 (ad j : Int)) 21)
            go_wp2_with (at_builtin; refine wpList_append_fits _ rfl _ _ 22 rfl qb 21 i0 1 Try.underlying22 hi hz1 qb l (n + 1) (cells32 L) rfl HOWN.out ⟨wr.heap.size, 0, none⟩ 1 1 [.int .i32 (ad j : Int)] rfl rfl HNEW.out (by simp [Value.oneCell']) (by omega) ?_; intro w5 hown5 hg5; have HN5 := hid hown5; have HG5 := hid hg5; clear hown5 hg5)
            go_roundw
            case rel =>
              have hb := HH.out.1.push hadj hmem (.single ⟨j, hj1, hlj, rfl⟩) _ (bf_len HN5.out HLL.out) HG5.out
              exact ⟨l + 1, j + 1, hl2, by omega, by omega, rfl, by go_num, hid ⟨_, _, by rw [List.length_append, HLL.out]; rfl, hb, fun e' h1 h2 => upto_push HH.out.2 e' h1 h2⟩⟩
            case measure => simp [intOf]; omega
        · obtain rfl : j = off (k + 1) := by omega
          have co := HH.out.1.kept.cell (HO.out.cell (i := k + 1) (by omega)) (fun h => h)
          obtain ⟨wl, rfl⟩ : ∃ wl, wl = wr := ⟨_, rfl⟩
          go_wp2
          go_loopw [47, 52] (fun q x wr => ∃ l h : Nat, l ≤ n + 1 ∧ h ≤ l ∧ q = .slice (some ⟨qb, 0, none⟩) l (n + 1) ∧ x = .int .i64 (h : Int) ∧ Hid (∃ L seen, L.length = l ∧ BF off ad n sb qb w wr k L seen ∧ Clo off ad k h L)) (fun _ x _ => n + 1 - (intOf x).toNat)
          case atStart => exact ⟨l, 0, hl, Nat.zero_le _, rfl, rfl, hid ⟨L, seen, HLL.out, HH.out.1, ⟨fun y ⟨e', h1, h2, h3⟩ => h3 ▸ HH.out.2 e' h1 h2, fun i hi => by omega⟩⟩⟩
          case round =>
            clear HH HLL co
            obtain ⟨l, h, hl, hhl, rfl, rfl, H⟩ := hrel
            obtain ⟨L, seen, ell, hbf, hclo⟩ := H.out
            have HH := hid (And.intro hbf hclo)
            have HLL := hid ell
            clear H ell hbf hclo
            by_cases hlh : h < l
            · have cq := own21_cell HH.out.1.own (i := h) (by rw [HLL.out]; exact hlh)
              obtain ⟨z, ez⟩ : ∃ z, z = L.getD h 0 := ⟨_, rfl⟩
              rw [← ez] at cq
              have hz : z ≤ n := by
                have := HH.out.1.bound z (by rw [ez]; exact getD_mem (by rw [HLL.out]; exact hlh))
                omega
              have cz := HH.out.1.kept.cell (HO.out.cell (i := z) (by omega)) (fun h => h)
              have hoz := HOFF.out z hz
              have hozm := HOFM.out (z + 1) (by omega)
              have EZ := hid ez.symm
              clear ez
              obtain ⟨wl2, rfl⟩ : ∃ wl2, wl2 = wr := ⟨_, rfl⟩
              go_wp2
              go_loopw [47, 54] (fun q e wr => ∃ l j : Nat, l ≤ n + 1 ∧ h < l ∧ off z ≤ j ∧ j ≤ off (z + 1) ∧ q = .slice (some ⟨qb, 0, none⟩) l (n + 1) ∧ e = .int .i32 (j : Int) ∧ Hid (∃ L seen, L.length = l ∧ L.getD h 0 = z ∧ BF off ad n sb qb w wr k L seen ∧ (∀ e', off z ≤ e' → e' < j → ad e' ∈ L) ∧ Clo off ad k h L)) (fun _ e _ => off (z + 1) - (intOf e).toNat)
              case atStart => exact ⟨l, off z, hl, hlh, by omega, hoz, rfl, rfl, hid ⟨L, seen, HLL.out, EZ.out, HH.out.1, fun e' h1 h2 => by omega, HH.out.2⟩⟩
              case round =>
                clear HH HLL cq cz EZ hlh hhl
                obtain ⟨l, j, hl, hhl, hj1, hj2, rfl, rfl, H⟩ := hrel
                obtain ⟨L, seen, ell, ez, hbf, hpre⟩ := H.out
                have HH := hid (And.intro hbf hpre)
                have HLL := hid ell
                have HZ := hid (And.intro hhl ez)
                clear H ell ez hbf hpre
                by_cases hlj : j < off (z + 1)
                · have hadj := HAD.out j (by have := HOFM.out (z + 1) (by omega); omega)
                  have cd := HH.out.1.kept.cell (HD.out.cell (i := j) (by have := HOFM.out (z + 1) (by omega); omega)) (fun h => h)
                  have co := HH.out.1.kept.cell (HO.out.cell (i := z + 1) (by omega)) (fun h => h)
                  have cs := HH.out.1.row.cell (i := ad j) (by omega)
                  have fs := HH.out.1.row.frozen (ad j)
                  have i1 : (j : Int) < (m : Int) := by have := HOFM.out (z + 1) (by omega); omega
                  by_cases hmem : ad j ∈ L
                  · rw [(HH.out.1.is (ad j) hadj).2 hmem] at cs
                    go_wp2
                    go_roundw
                    case rel =>
                      exact ⟨l, j + 1, hl, hhl, by omega, by omega, rfl, by go_num, hid ⟨L, seen, HLL.out, HZ.out.2, HH.out.1, fun e' h1 h2 => upto_in HH.out.2.1 hmem e' h1 h2, HH.out.2.2⟩⟩
                    case measure => simp [intOf]; omega
                  · have q : (seen (ad j) == (k : Int) + 1) = false := by
                      have := HH.out.1.is (ad j) hadj
                      simp
                      exact fun e => hmem (this.1 e)
                    have hl2 : l + 1 ≤ n + 1 := by
                      have := nodup_len (n + 1) (ad j :: L) (List.nodup_cons.2 ⟨hmem, HH.out.1.nodup⟩) (fun x hx => by
                        rcases List.mem_cons.1 hx with e | e
                        · omega
                        · exact HH.out.1.bound x e)
                      have hlen := HLL.out
                      simp at this; omega
                    have HOWN := hid (bf_own HH.out.1 (ad j) (.cells #[.int .i32 (ad j : Int)] 21) HLL.out)
                    have HNEW := hid (bf_new wr sb (ad j) ((k : Int) + 1) (.int .i32 (ad j : Int)) 21)
                    go_wp2_with (at_builtin; refine wpList_append_fits _ rfl _ _ 22 rfl qb 21 i0 1 Try.underlying22 hi hz1 qb l (n + 1) (cells32 L) rfl HOWN.out ⟨wr.heap.size, 0, none⟩ 1 1 [.int .i32 (ad j : Int)] rfl rfl HNEW.out (by simp [Value.oneCell']) (by omega) ?_; intro w5 hown5 hg5; have HN5 := hid hown5; have HG5 := hid hg5; clear hown5 hg5)
                    go_roundw
                    case rel =>
                      have hb := HH.out.1.push hadj hmem (.tail (HH.out.1.reach z (by have := HZ.out; rw [← this.2]; exact getD_mem (by rw [HLL.out]; exact this.1))) ⟨j, hj1, hlj, rfl⟩) _ (bf_len HN5.out HLL.out) HG5.out
                      exact ⟨l + 1, j + 1, hl2, by omega, by omega, by omega, rfl, by go_num, hid ⟨_, _, by rw [List.length_append, HLL.out]; rfl, by rw [getD_push (by rw [HLL.out]; omega)]; exact HZ.out.2, hb, fun e' h1 h2 => upto_push HH.out.2.1 e' h1 h2, closed_push HH.out.2.2 (by rw [HLL.out]; omega)⟩⟩
                    case measure => simp [intOf]; omega
                · obtain rfl : j = off (z + 1) := by omega
                  have co := HH.out.1.kept.cell (HO.out.cell (i := z + 1) (by omega)) (fun h => h)
                  go_wp2
                  go_roundw
                  case rel =>
                    exact ⟨l, h + 1, hl, hhl, rfl, by go_num, hid ⟨L, seen, HLL.out, HH.out.1, HH.out.2.2.step (fun y hs => by rw [HZ.out.2] at hs; obtain ⟨e', h1, h2, h3⟩ := hs; exact h3 ▸ HH.out.2.1 e' h1 h2)⟩⟩
                  case measure => simp [intOf]; omega
            · obtain rfl : l = h := by omega
              obtain ⟨wl2, rfl⟩ : ∃ wl2, wl2 = wr := ⟨_, rfl⟩
              go_wp2
              go_loopw [56] (fun y wr => ∃ j : Nat, j ≤ n ∧ y = .int .i64 (j : Int) ∧ wl2 = wr) (fun y _ => n - (intOf y).toNat)
              case atStart => exact ⟨0, Nat.zero_le _, rfl, rfl⟩
              case round =>
                obtain ⟨j, hj, rfl, rfl⟩ := hrel
                by_cases hjn : j < n
                · by_cases hjk : j = k
                  · have q : ((j : Int) == (k : Int)) = true := by simp [hjk]
                    have HJK := hid hjk
                    clear hjk
                    go_wp2
                    go_roundw
                    case rel => exact ⟨j + 1, by omega, by go_num, trivial⟩
                    case measure => simp [intOf]; omega
                  · have q : ((j : Int) == (k : Int)) = false := by simp; omega
                    have hiff := (HH.out.1.all HH.out.2.start (fun i hi => HH.out.2.upto i (by rw [← HLL.out]; exact hi)) (y := j) (by omega)).trans (HLAW.out k hlt j hjn hjk)
                    have cr := HH.out.1.kept.cell (HR.out.cell (i := k) hlt) (fun h => h)
                    have cA := HH.out.1.kept.cell (HA.out.cell (i := j) hjn) (fun h => h)
                    have hCC := HC.out.kept HH.out.1.kept (fun _ _ _ h => h)
                    obtain ⟨_, _, eC, _, _, hCcells⟩ := hCC.parts
                    cases eC
                    obtain ⟨cg, rfl, cc1⟩ := hCcells k hlt
                    obtain ⟨cg', e', cc2⟩ := hCcells j hjn
                    cases e'
                    have cs := HH.out.1.row.cell (i := j) (by omega)
                    have qb' : ((seen j) == (k : Int) + 1) = (R k && A j && C k && C j) := by
                      cases hb : (R k && A j && C k && C j)
                      · simp; exact fun e => by have := hiff.1 e; rw [hb] at this; cases this
                      · simp; exact hiff.2 hb
                    clear hiff hCC hCcells hjk
                    cases h1 : R k
                    · rw [h1] at cr
                      simp only [h1, Bool.and_true, Bool.and_false, Bool.true_and, Bool.false_and] at qb'
                      go_wp2
                      go_roundw
                      case rel => exact ⟨j + 1, by omega, by go_num, trivial⟩
                      case measure => simp [intOf]; omega
                    · cases h2 : A j
                      · rw [h1] at cr
                        rw [h2] at cA
                        simp only [h1, h2, Bool.and_true, Bool.and_false, Bool.true_and, Bool.false_and] at qb'
                        go_wp2
                        go_roundw
                        case rel => exact ⟨j + 1, by omega, by go_num, trivial⟩
                        case measure => simp [intOf]; omega
                      · cases h3 : C k
                        · rw [h1] at cr
                          rw [h2] at cA
                          rw [h3] at cc1
                          simp only [h1, h2, h3, Bool.and_true, Bool.and_false, Bool.true_and, Bool.false_and] at qb'
                          go_wp2
                          go_roundw
                          case rel => exact ⟨j + 1, by omega, by go_num, trivial⟩
                          case measure => simp [intOf]; omega
                        · cases h4 : C j
                          · rw [h1] at cr
                            rw [h2] at cA
                            rw [h3] at cc1
                            rw [h4] at cc2
                            simp only [h1, h2, h3, h4, Bool.and_true, Bool.and_false, Bool.true_and, Bool.false_and] at qb'
                            go_wp2
                            go_roundw
                            case rel => exact ⟨j + 1, by omega, by go_num, trivial⟩
                            case measure => simp [intOf]; omega
                          · rw [h1] at cr
                            rw [h2] at cA
                            rw [h3] at cc1
                            rw [h4] at cc2
                            simp only [h1, h2, h3, h4, Bool.and_true, Bool.and_false, Bool.true_and, Bool.false_and] at qb'
                            go_wp2
                            go_roundw
                            case rel => exact ⟨j + 1, by omega, by go_num, trivial⟩
                            case measure => simp [intOf]; omega
                · obtain rfl : j = n := by omega
                  go_wp2
                  go_roundw
                  case rel => exact ⟨k + 1, l, by omega, hl, rfl, by go_num, hid ⟨seen, _, HH.out.1.row, by have := HH.out.1.own; rw [HLL.out] at this; exact this, fun y => by have := HH.out.1.le y; omega, HH.out.1.kept⟩⟩
                  case measure => simp [intOf]; omega
    · obtain rfl : k = n := by omega
      go_wp2
      conv => arg 2; whnf
      go_wp2
      go_ret
      exact ⟨rfl, HK0.out.below HB.out HB0.out (fun g h => h.elim)⟩

end Go.Proofs.Qxb6602859a
