import Derived.Test.Qxb6602859aQ3
import Derived.Test.Qxb6602859aQ4
namespace Go.Proofs.Qxb6602859a
open Go.RowKit Kit
set_option linter.unusedVariables false

theorem deg_le (su : Nat → Nat) (x : Nat) : ∀ k, deg su k x ≤ k
  | 0 => Nat.le_refl _
  | k + 1 => by
    have := deg_le su x k
    simp only [deg]
    split <;> omega

theorem cnt9_le (su : Nat → Nat) (k : Nat) : ∀ x, cnt9 su k x ≤ k
  | 0 => Nat.zero_le _
  | x + 1 => deg_le su x k

theorem run_make21 (K : IntKind) (k : Nat) (L : Int) (hL : L = (k : Int)) (hk : k ≤ 131072) (z : World) : (Instr.makeSlice 22 (.int K L) (.int K L)).run Try.prog z = .ok (.slice (some ⟨z.heap.size, 0, none⟩) k k) (z.alloc (.cells (madeCells #[.int .i32 0] k) 21)) := by
  subst hL
  exact run_make_row' (P := Try.prog) 22 21 (.int .i32 0) 4 Try.underlying22 Try.info21 rfl K K k (by omega) (by omega) z

/-- the counts, while they are made -/
structure CN (w wr : World) (n cb : Nat) (f : Nat → Nat) : Prop where
  row : wr.rowIs cb 21 (n + 2) (fun i => .int .i32 (f i : Int))
  kept : Kept (fun _ => False) w wr
  ge : w.heap.size ≤ cb

theorem CN.set {w wr : World} {n cb : Nat} {f g : Nat → Nat} (h : CN w wr n cb f) (i v : Nat) (e : ∀ j, (if j = i then v else f j) = g j) : CN w (wr.setCell ⟨cb, i, none⟩ (.int .i32 (v : Int))) n cb g :=
  ⟨(h.row.set i _).congr (fun j hj => by
    rw [← e j]
    by_cases h : j = i
    · rw [if_pos h, if_pos h]
    · rw [if_neg h, if_neg h]), h.kept.setCell (.inr h.ge) _, h.ge⟩

theorem CN.drew {w wr : World} {n cb : Nat} {f : Nat → Nat} (h : CN w wr n cb f) : CN w wr.drew n cb f := ⟨h.row, h.kept.drew, h.ge⟩

/-- the three rows -/
structure CS (w wr : World) (n m cb ab fb : Nat) (off fl ad : Nat → Nat) : Prop where
  rO : wr.rowIs cb 21 (n + 2) (fun i => .int .i32 (off i : Int))
  rF : wr.rowIs fb 21 (n + 1) (fun i => .int .i32 (fl i : Int))
  rD : wr.rowIs ab 21 m (fun i => .int .i32 (ad i : Int))
  kept : Kept (fun _ => False) w wr
  ge : w.heap.size ≤ cb
  l1 : cb < ab
  l2 : ab < fb

def upN (k : Nat) (f : Nat → Nat) (i : Nat) : Nat := if i < k then f i else 0

theorem upN_step (k : Nat) (f : Nat → Nat) (j : Nat) : (if j = k then f k else upN k f j) = upN (k + 1) f j := by
  unfold upN
  by_cases h : j = k
  · subst h; simp
  · have : j < k ↔ j < k + 1 := by omega
    simp [h, this]

theorem CS.start {w wr : World} {n m cb : Nat} {off : Nat → Nat} (h : CN w wr n cb off) :
    CS w ((wr.alloc (.cells (madeCells #[.int .i32 0] m) 21)).alloc (.cells (madeCells #[.int .i32 0] (n + 1)) 21)) n m cb wr.heap.size (wr.heap.size + 1) off (upN 0 off) (fun _ => 0) := by
  have h1 := (World.rowIs_made wr (.int .i32 0) m 21).alloc (.cells (madeCells #[.int .i32 0] (n + 1)) 21)
  have h2 := World.rowIs_made (wr.alloc (.cells (madeCells #[.int .i32 0] m) 21)) (.int .i32 0) (n + 1) 21
  simp only [World.size_alloc] at h2
  exact ⟨(h.row.alloc _).alloc _, h2.congr (fun i _ => by simp [upN]), h1.congr (fun i _ => rfl),
    h.kept.trans (Kept.of_below (((Below.refl wr.heap.size wr).alloc (Nat.le_refl _) _).alloc (by simp) _)), h.ge, h.row.lt, by omega⟩

theorem CS.setF {w wr : World} {n m cb ab fb : Nat} {off fl ad g : Nat → Nat} (h : CS w wr n m cb ab fb off fl ad) (i v : Nat) (e : ∀ j, (if j = i then v else fl j) = g j) : CS w (wr.setCell ⟨fb, i, none⟩ (.int .i32 (v : Int))) n m cb ab fb off g ad :=
  ⟨h.rO.setOther (by have := h.l1; have := h.l2; simp; omega) _, (h.rF.set i _).congr (fun j hj => by
    rw [← e j]
    by_cases h : j = i
    · rw [if_pos h, if_pos h]
    · rw [if_neg h, if_neg h]), h.rD.setOther (by have := h.l2; simp; omega) _, h.kept.setCell (.inr (by have := h.l1; have := h.l2; have := h.ge; simp; omega)) _, h.ge, h.l1, h.l2⟩

theorem CS.setD {w wr : World} {n m cb ab fb : Nat} {off fl ad : Nat → Nat} (h : CS w wr n m cb ab fb off fl ad) (i v : Nat) : CS w (wr.setCell ⟨ab, i, none⟩ (.int .i32 (v : Int))) n m cb ab fb off fl (fun j => if j = i then v else ad j) :=
  ⟨h.rO.setOther (by have := h.l1; simp; omega) _, h.rF.setOther (by have := h.l2; simp; omega) _, (h.rD.set i _).congr (fun j hj => by
    by_cases h : j = i
    · rw [if_pos h, if_pos h]
    · rw [if_neg h, if_neg h]), h.kept.setCell (.inr (by have := h.l1; have := h.ge; simp; omega)) _, h.ge, h.l1, h.l2⟩

theorem CS.drew {w wr : World} {n m cb ab fb : Nat} {off fl ad : Nat → Nat} (h : CS w wr n m cb ab fb off fl ad) : CS w wr.drew n m cb ab fb off fl ad := ⟨h.rO, h.rF, h.rD, h.kept.drew, h.ge, h.l1, h.l2⟩

theorem CS.setF' {w wr : World} {n m cb ab fb : Nat} {off fl ad g : Nat → Nat} (h : CS w wr n m cb ab fb off fl ad) (i v : Nat) (V : Int) (hV : V = (v : Int)) (e : ∀ j, (if j = i then v else fl j) = g j) : CS w (wr.setCell ⟨fb, i, none⟩ (.int .i32 V)) n m cb ab fb off g ad := by
  subst hV; exact h.setF i v e

theorem fl_step {su : Nat → Nat} {off : Nat → Nat} {k s p : Nat} (es : s = su k) (ep : off s + deg su k s = p) (y : Nat) : (if y = s then p + 1 else off y + deg su k y) = off y + deg su (k + 1) y := by
  simp only [deg]
  by_cases h : y = s
  · rw [if_pos h, h, if_pos es.symm]; omega
  · rw [if_neg h, if_neg (fun e => h (by rw [es, e]))]; omega

theorem ad_le {ad : Nat → Nat} {n p q : Nat} (h : ∀ e, ad e ≤ n) (hq : q ≤ n) (e : Nat) : (if e = p then q else ad e) ≤ n := by
  split
  · exact hq
  · exact h e

theorem ad_step {su sv ad : Nat → Nat} {m j M p q : Nat} (h : ∀ i, i < j - M → ad (posn su m i) = sv i) (hk : j - M < m) (hj : M ≤ j) (ep : p = posn su m (j - M)) (eq : q = sv (j - M)) (i : Nat) (hi : i < j + 1 - M) : (if posn su m i = p then q else ad (posn su m i)) = sv i := by
  by_cases e : i = j - M
  · subst e; rw [if_pos ep.symm, eq]
  · rw [if_neg (fun h' => e (posn_inj su (by omega) hk (h'.trans ep)))]
    exact h i (by omega)

set_option maxHeartbeats 4000000 in
set_option maxRecDepth 100000 in
theorem seg28 (w0 w : World) (n m M mm ir ia cc fc nfc ntc : Nat) (ca fa nfa nta : Option Addr) (C R A : Nat → Bool) (fu tu : Nat → Nat) {x1 x3 x4 x5 x6 x7 x8 x9 x10 x11 x12 x13 x14 x15 x16 x17 x18 x19 x20 x22 x23 x26 x27 x28 x29 x32 x33 x34 x35 x36 x37 x38 x39 x40 x41 x42 x43 x44 x45 x46 x47 x48 x49 x50 x51 x52 x53 x54 x55 x56 x57 x58 x59 x60 x61 x62 x63 x64 x65 x66 x67 x68 x69 x70 x71 x72 x73 x74 x75 x76 x77 x78 x79 x80 x81 x82 x83 x84 x85 x86 x87 x88 x89 x90 x91 x92 x93 x94 x95 x96 x97 x98 x99 x100 x101 x102 x103 x104 x105 x106 x107 x108 x109 x110 x111 x112 x113 x114 x115 x116 x117 x118 x119 x120 x121 x122 x123 x124 x125 x126 x127 x128 x129 x130 x131 x132 x133 x134 x135 x136 x137 x138 x139 x140 x141 x142 x143 x144 x145 x146 x147 x148 x149 x150 x151 x152 x153 x154 x155 x156 x157 x158 x159 x160 x161 x162 x163 x164 x165 x166 x167 x168 x169 x170 x171 x172 x173 x174 x175 x176 x177 x178 x179 x180 x181 x182 x183 x184 x185 x186 x187 x188 x189 x190 x191 x192 x193 x194 x195 x196 x197 x198 x199 x200 x201 x202 x203 x204 x205 x206 x207 x208 x209 x210 x211 x212 x213 x214 x215 x216 x217 x218 x219 x220 x221 x222 x223 x224 x225 x226 x227 x228 x229 x230 x231 x232 x233 x234 x235 x236 x237 x238 x239 x240 x241 x242 x243 x244 x245 x246 x247 x248 x249 x250 x251 x252 x253 x254 x255 x256 x257 x258 x259 x260 x261 x262 x263 x264 x265 x266 x267 x268 x269 x270 x271 x272 x273 x274 x275 x276 x277 x278 x279 x280 x281 x282 x283 x284 x285 x286 x287 x288 x289 x290 x291 x292 x293 x294 x295 x296 x297 x298 x299 x300 x301 x302 x303 x304 x305 x306 x307 x308 x309 x310 x311 x312 x313 x314 x315 x316 x317 x318 x319 x320 x321 x322 x323 x324 x325 x326 x327 x328 x329 x330 x331 x332 x333 x334 x335 x336 x337 x338 x339 x340 x341 x342 x343 x344 x345 x346 x347 x348 x349 x350 x351 x352 x353 x354 x355 x356 x357 x358 x359 x360 x361 x362 x363 x364 x365 x366 x367 x368 x369 x370 x371 x372 x373 x374 x375 x376 x377 x378 x379 x380 x381 x382 x383 x384 x385 x386 x387 x388 x389 x390 x391 x392 x393 x394 x395 x396 x397 x398 x399 x400 x401 x402 x403 x404 x405 x406 x407 x408 x409 x410 x411 x412 x413 x414 x415 x416 x417 x418 x419 x420 x421 x422 x423 x424 x425 x426 x427 x428 x429 x430 x431 x432 x433 x434 x435 x436 x437 x438 x439 x440 x441 x442 x443 x444 x445 x446 x447 x448 x449 x450 x451 x452 x453 x454 x455 x456 x457 x458 x459 x460 x461 x462 x463 x464 x465 x466 x467 x468 x469 x470 x471 x472 x473 x474 x475 x476 x477 x478 x479 x480 x481 x482 x483 x484 x485 x486 x487 x488 x489 x490 x491 x492 x493 x494 x495 x496 x497 x498 x499 x500 x501 x502 x503 x504 x505 x506 x507 x508 x509 x510 x511 x512 x513 x514 x515 x516 x517 x518 x519 x520 x521 x522 x523 x524 x525 x526 x527 x528 x529 x530 x531 x532 x533 x534 x535 x536 x537 x538 x539 x540 x541 x542 x543 x544 x545 x546 x547 x548 x549 x550 x551 x552 x553 x554 x555 x556 x557 x558 x559 x560 x561 x562 x563 x564 x565 x566 x567 x568 x569 x570 x571 x572 x573 x574 x575 x576 x577 x578 x579 x580 x581 x582 x583 x584 x585 x586 x587 x588 x589 x590 x591 x592 x593 x594 x595 x596 x597 x598 x599 x600 x601 x602 x603 x604 x605 x606 x607 x608 x609 x610 x611 x612 : Value}
   (hn : n ≤ 4096) (hmm : mm = M + m) (hm : m ≤ 65536) (hM : M ≤ 65536) (hfu : ∀ j, j < m → fu j ≤ 2147483647) (htu : ∀ j, j < m → tu j ≤ 2147483647) (hnfc : mm ≤ nfc) (hnfc2 : nfc ≤ 9223372036854775807) (hntc : mm ≤ ntc) (hntc2 : ntc ≤ 9223372036854775807)
   (hlaw : ∀ x, x < n → ∀ y, y < n → y ≠ x → (Relation.TransGen (fun a b => ∃ j, j < m ∧ slotN n (fu j) = a ∧ slotN n (tu j) = b) x y ↔ (R x && A y && C x && C y) = true))
   (hB : Below w0.heap.size w0 w) (hB0 : w0.heap.size ≤ w.heap.size) (hcc : n ≤ cc) (hcc2 : cc ≤ 9223372036854775807)
   (hC : Row w 4 (.slice ca n cc) n (fun i => .bool (C i))) (rR : w.rowIs ir 4 n (fun i => .bool (R i))) (rA : w.rowIs ia 4 n (fun i => .bool (A i)))
   (hNF : ∀ j, M ≤ j → j < mm → ∃ g, nfa = some ⟨g, 0, none⟩ ∧ w.cell? ⟨g, j, none⟩ = some (.int .i32 (fu (j - M) : Int)))
   (hNT : ∀ j, M ≤ j → j < mm → ∃ g, nta = some ⟨g, 0, none⟩ ∧ w.cell? ⟨g, j, none⟩ = some (.int .i32 (tu (j - M) : Int))) :
  Code.wp Try.prog (restF Try.f7 28) (bodyPost Try.prog Try.f7 (Post7 w0)) ⟨#[.slice ca n cc, x1, .slice fa M fc, x3, x4, x5, x6, x7, x8, x9, x10, x11, x12, x13, x14, x15, x16, x17, x18, x19, x20, .int .i64 (n : Int), x22, x23, .slice (some ⟨ir, 0, none⟩) n n, .slice (some ⟨ia, 0, none⟩) n n, x26, x27, x28, x29, .slice nfa mm nfc, .slice nta mm ntc, x32, x33, x34, x35, x36, x37, x38, x39, x40, x41, x42, x43, x44, x45, x46, x47, x48, x49, x50, x51, x52, x53, x54, x55, x56, x57, x58, x59, x60, x61, x62, x63, x64, x65, x66, x67, x68, x69, x70, x71, x72, x73, x74, x75, x76, x77, x78, x79, x80, x81, x82, x83, x84, x85, x86, x87, x88, x89, x90, x91, x92, x93, x94, x95, x96, x97, x98, x99, x100, x101, x102, x103, x104, x105, x106, x107, x108, x109, x110, x111, x112, x113, x114, x115, x116, x117, x118, x119, x120, x121, x122, x123, x124, x125, x126, x127, x128, x129, x130, x131, x132, x133, x134, x135, x136, x137, x138, x139, x140, x141, x142, x143, x144, x145, x146, x147, x148, x149, x150, x151, x152, x153, x154, x155, x156, x157, x158, x159, x160, x161, x162, x163, x164, x165, x166, x167, x168, x169, x170, x171, x172, x173, x174, x175, x176, x177, x178, x179, x180, x181, x182, x183, x184, x185, x186, x187, x188, x189, x190, x191, x192, x193, x194, x195, x196, x197, x198, x199, x200, x201, x202, x203, x204, x205, x206, x207, x208, x209, x210, x211, x212, x213, x214, x215, x216, x217, x218, x219, x220, x221, x222, x223, x224, x225, x226, x227, x228, x229, x230, x231, x232, x233, x234, x235, x236, x237, x238, x239, x240, x241, x242, x243, x244, x245, x246, x247, x248, x249, x250, x251, x252, x253, x254, x255, x256, x257, x258, x259, x260, x261, x262, x263, x264, x265, x266, x267, x268, x269, x270, x271, x272, x273, x274, x275, x276, x277, x278, x279, x280, x281, x282, x283, x284, x285, x286, x287, x288, x289, x290, x291, x292, x293, x294, x295, x296, x297, x298, x299, x300, x301, x302, x303, x304, x305, x306, x307, x308, x309, x310, x311, x312, x313, x314, x315, x316, x317, x318, x319, x320, x321, x322, x323, x324, x325, x326, x327, x328, x329, x330, x331, x332, x333, x334, x335, x336, x337, x338, x339, x340, x341, x342, x343, x344, x345, x346, x347, x348, x349, x350, x351, x352, x353, x354, x355, x356, x357, x358, x359, x360, x361, x362, x363, x364, x365, x366, x367, x368, x369, x370, x371, x372, x373, x374, x375, x376, x377, x378, x379, x380, x381, x382, x383, x384, x385, x386, x387, x388, x389, x390, x391, x392, x393, x394, x395, x396, x397, x398, x399, x400, x401, x402, x403, x404, x405, x406, x407, x408, x409, x410, x411, x412, x413, x414, x415, x416, x417, x418, x419, x420, x421, x422, x423, x424, x425, x426, x427, x428, x429, x430, x431, x432, x433, x434, x435, x436, x437, x438, x439, x440, x441, x442, x443, x444, x445, x446, x447, x448, x449, x450, x451, x452, x453, x454, x455, x456, x457, x458, x459, x460, x461, x462, x463, x464, x465, x466, x467, x468, x469, x470, x471, x472, x473, x474, x475, x476, x477, x478, x479, x480, x481, x482, x483, x484, x485, x486, x487, x488, x489, x490, x491, x492, x493, x494, x495, x496, x497, x498, x499, x500, x501, x502, x503, x504, x505, x506, x507, x508, x509, x510, x511, x512, x513, x514, x515, x516, x517, x518, x519, x520, x521, x522, x523, x524, x525, x526, x527, x528, x529, x530, x531, x532, x533, x534, x535, x536, x537, x538, x539, x540, x541, x542, x543, x544, x545, x546, x547, x548, x549, x550, x551, x552, x553, x554, x555, x556, x557, x558, x559, x560, x561, x562, x563, x564, x565, x566, x567, x568, x569, x570, x571, x572, x573, x574, x575, x576, x577, x578, x579, x580, x581, x582, x583, x584, x585, x586, x587, x588, x589, x590, x591, x592, x593, x594, x595, x596, x597, x598, x599, x600, x601, x602, x603, x604, x605, x606, x607, x608, x609, x610, x611, x612], []⟩ w := by
  obtain ⟨su, esu⟩ : ∃ su : Nat → Nat, su = fun j => slotN n (fu j) := ⟨_, rfl⟩
  obtain ⟨sv, esv⟩ : ∃ sv : Nat → Nat, sv = fun j => slotN n (tu j) := ⟨_, rfl⟩
  have mk1 := run_make21 .i64 (n + 2) ((n : Int) + 2) (by omega) (by omega)
  have ESU := hid esu
  have ESV := hid esv
  have HC := hid hC
  have HR := hid rR
  have HA := hid rA
  have HNF := hid hNF
  have HNT := hid hNT
  have HLAW := hid hlaw
  have HFU := hid hfu
  have HTU := hid htu
  have HB := hid hB
  have HB0 := hid hB0
  have HMM := hid hmm
  have hMm : M ≤ mm := by omega
  have hmm2 : mm ≤ 131072 := by omega
  clear hC rR rA hNF hNT hlaw hfu htu hB hB0 esu esv hmm
  rw [rest7_28]
  conv => arg 2; arg 1; whnf
  go_wp2
  rw [rest7_29]
  conv => arg 2; arg 1; whnf
  have hcn : CN w (w.alloc (.cells (madeCells #[.int .i32 0] (n + 2)) 21)) n w.heap.size (cnt9 su 0) :=
    ⟨(World.rowIs_made w (.int .i32 0) (n + 2) 21).congr (fun i _ => by cases i <;> rfl), Kept.of_below ((Below.refl _ _).alloc (Nat.le_refl _) _), Nat.le_refl _⟩
  have HCN := hid hcn
  clear hcn mk1
  generalize w.alloc (.cells (madeCells #[.int .i32 0] (n + 2)) 21) = w1 at HCN ⊢
  generalize ecb : w.heap.size = cb at HCN ⊢
  clear ecb
  go_wp2
  go_loopw [39] (fun i wr => ∃ j : Nat, M ≤ j ∧ j ≤ mm ∧ i = .int .i64 (j : Int) ∧ Hid (CN w wr n cb (cnt9 su (j - M)))) (fun i _ => mm - (intOf i).toNat)
  case atStart => exact ⟨M, Nat.le_refl _, hMm, rfl, hid (by rw [Nat.sub_self]; exact HCN.out)⟩
  case round =>
    clear HCN
    obtain ⟨j, hj1, hj2, rfl, HCN⟩ := hrel
    by_cases hlt : j < mm
    · obtain ⟨g, rfl, cf⟩ := HNF.out j hj1 hlt
      have cf := HCN.out.kept.cell cf (fun h => h)
      have hk : j - M < m := by have := HMM.out; omega
      have hfk := HFU.out (j - M) hk
      obtain ⟨s, es⟩ : ∃ s, s = su (j - M) := ⟨_, rfl⟩
      have hs : s ≤ n := by rw [es, ESU.out]; exact slotN_le _ _
      have cs := HCN.out.row.cell (i := s + 1) (by omega)
      have fs := HCN.out.row.frozen (s + 1)
      have hle := cnt9_le su (j - M) (s + 1)
      have hstep := fun i => cnt9_step su (j - M) i
      rw [← es] at hstep
      have ES := hid es
      have HST := hid hstep
      generalize cnt9 su (j - M) (s + 1) = v at cs hle HST
      have esl : slotN n (fu (j - M)) = s := by rw [ES.out, ESU.out]
      clear hstep es
      go_wp2_with fail
      refine (zz23_any n (fu (j - M)) _ hfk hn).mono ?_
      rintro e w' ⟨rfl, hw⟩
      subst hw
      rw [esl]
      go_wp2
      go_roundw
      case rel =>
        refine ⟨j + 1, by omega, by omega, by go_num, hid ?_⟩
        rw [show j + 1 - M = (j - M) + 1 by omega]
        have := HCN.out.set (s + 1) (v + 1) HST.out
        simpa using this
      case measure => simp [intOf]; omega
    · obtain rfl : mm = j := by omega
      go_wp2
      rw [rest7_30]
      conv => arg 2; arg 1; whnf
      have hc0 : CN w wr n cb (cnt10 su m 0) := by
        have := HCN.out
        rw [show mm - M = m by have := HMM.out; omega] at this
        exact ⟨this.row.congr (fun i _ => by rw [cnt10_zero]), this.kept, this.ge⟩
      have HC0 := hid hc0
      clear hc0 HCN
      go_wp2
      go_loopw [40] (fun i wr => ∃ x : Nat, x ≤ n + 1 ∧ i = .int .i64 (x : Int) ∧ Hid (CN w wr n cb (cnt10 su m x))) (fun i _ => n + 1 - (intOf i).toNat)
      case atStart => exact ⟨0, Nat.zero_le _, rfl, HC0⟩
      case round =>
        clear HC0 hj1 hj2 hlt
        obtain ⟨x, hx, rfl, HCN⟩ := hrel
        by_cases hlt : x ≤ n
        · have c0 := HCN.out.row.cell (i := x) (by omega)
          have c1 := HCN.out.row.cell (i := x + 1) (by omega)
          have f1 := HCN.out.row.frozen (x + 1)
          have hb0 : cnt10 su m x x ≤ 65536 := by
            have h1 := offs_mono (deg su m) x (n + 1) (by omega)
            have h2 := offs_total su n m (fun j hj => by rw [ESU.out]; exact slotN_le _ _)
            unfold cnt10; rw [if_pos (Nat.le_refl _)]; omega
          have hb1 : cnt10 su m x (x + 1) ≤ 65536 := by
            unfold cnt10; rw [if_neg (by omega)]
            have := cnt9_le su m (x + 1); omega
          have HST := hid (cnt10_step su m x)
          generalize cnt10 su m x x = v0 at c0 hb0 HST
          generalize cnt10 su m x (x + 1) = v1 at c1 hb1 HST
          have i1 : (x : Int) + 1 < (n : Int) + 2 := by omega
          have i2 : (x : Int) < (n : Int) + 2 := by omega
          go_wp2
          go_region
          all_goals go_wp2
          refine ⟨⟨x + 1, by omega, by go_num, hid ?_⟩, by simp [intOf]; omega⟩
          have := (HCN.out.set (x + 1) (v1 + v0) HST.out).drew
          simpa using this
        · obtain rfl : x = n + 1 := by omega
          have htot := offs_total su n m (fun j hj => by rw [ESU.out]; exact slotN_le _ _)
          have hcn : CN w wr n cb (offs (deg su m)) := ⟨HCN.out.row.congr (fun i hi => by unfold cnt10; rw [if_pos (by omega)]), HCN.out.kept, HCN.out.ge⟩
          have ct := hcn.row.cell (i := n + 1) (by omega)
          rw [htot] at ct
          have HC1 := hid hcn
          have HTOT := hid htot
          clear hcn htot HCN
          have mk1 := run_make21 .i32 m (m : Int) rfl (by omega)
          have mk2 := run_make21 .i64 (n + 1) ((n : Int) + 1) (by omega) (by omega)
          go_wp2
          rw [rest7_31]
          conv => arg 2; arg 1; whnf
          go_wp2
          rw [rest7_32]
          conv => arg 2; arg 1; whnf
          go_wp2
          rw [rest7_33]
          conv => arg 2; arg 1; whnf
          have hcs := CS.start (n := n) (m := m) HC1.out
          have HCS := hid hcs
          clear hcs mk1 mk2 ct
          generalize (wr.alloc (.cells (madeCells #[.int .i32 0] m) 21)).alloc (.cells (madeCells #[.int .i32 0] (n + 1)) 21) = w2 at HCS ⊢
          generalize eab : wr.heap.size = ab at HCS ⊢
          generalize efb : ab + 1 = fb at HCS ⊢
          clear eab efb
          go_wp2
          go_loopw [43] (fun i wr => ∃ x : Nat, x ≤ n + 1 ∧ i = .int .i64 (x : Int) ∧ Hid (CS w wr n m cb ab fb (offs (deg su m)) (upN x (offs (deg su m))) (fun _ => 0))) (fun i _ => n + 1 - (intOf i).toNat)
          case atStart => exact ⟨0, Nat.zero_le _, rfl, HCS⟩
          case round =>
            clear HCS HC1
            obtain ⟨x, hx, rfl, HCS⟩ := hrel
            by_cases hlt : x ≤ n
            · have c0 := HCS.out.rO.cell (i := x) (by omega)
              have c1 := HCS.out.rF.cell (i := x) (by omega)
              have f1 := HCS.out.rF.frozen x
              have i1 : (x : Int) < (n : Int) + 1 := by omega
              have i2 : (x : Int) < (n : Int) + 2 := by omega
              go_wp2
              go_roundw
              case rel => exact ⟨x + 1, by omega, by go_num, hid (HCS.out.setF x _ (upN_step _ _))⟩
              case measure => simp [intOf]; omega
            · obtain rfl : x = n + 1 := by omega
              have hcs : CS w wr n m cb ab fb (offs (deg su m)) (fun y => offs (deg su m) y + deg su 0 y) (fun _ => 0) := ⟨HCS.out.rO, HCS.out.rF.congr (fun i hi => by simp [upN, hi, deg]), HCS.out.rD, HCS.out.kept, HCS.out.ge, HCS.out.l1, HCS.out.l2⟩
              have HC2 := hid hcs
              clear hcs HCS
              go_wp2
              rw [rest7_34]
              conv => arg 2; arg 1; whnf
              go_wp2
              go_loopw [44] (fun i wr => ∃ j : Nat, M ≤ j ∧ j ≤ mm ∧ i = .int .i64 (j : Int) ∧ Hid (∃ ad, CS w wr n m cb ab fb (offs (deg su m)) (fun y => offs (deg su m) y + deg su (j - M) y) ad ∧ (∀ e, ad e ≤ n) ∧ ∀ i, i < j - M → ad (posn su m i) = sv i)) (fun i _ => mm - (intOf i).toNat)
              case atStart => exact ⟨M, Nat.le_refl _, hMm, rfl, hid ⟨_, by rw [Nat.sub_self]; exact HC2.out, fun _ => Nat.zero_le _, fun i hi => by omega⟩⟩
              case round =>
                clear HC2 hlt
                obtain ⟨j, hj1, hj2, rfl, H⟩ := hrel
                obtain ⟨ad, hcs, had1, had2⟩ := H.out
                have HCS := hid hcs
                have HAD1 := hid had1
                have HAD2 := hid had2
                clear H hcs had1 had2
                by_cases hlt : j < mm
                · obtain ⟨g, rfl, cf⟩ := HNF.out j hj1 hlt
                  obtain ⟨g', rfl, ct⟩ := HNT.out j hj1 hlt
                  have cf := HCS.out.kept.cell cf (fun h => h)
                  have hg' : g' < w.heap.size := World.block_lt_of_cell? _ _ ct
                  have ct := HCS.out.kept.cell ct (fun h => h)
                  have hk : j - M < m := by have := HMM.out; omega
                  have hfk := HFU.out (j - M) hk
                  have htk := HTU.out (j - M) hk
                  obtain ⟨s, es⟩ : ∃ s, s = su (j - M) := ⟨_, rfl⟩
                  have hs : s ≤ n := by rw [es, ESU.out]; exact slotN_le _ _
                  have cs := HCS.out.rF.cell (i := s) (by omega)
                  have fs := HCS.out.rF.frozen s
                  obtain ⟨p, ep⟩ : ∃ p, p = posn su m (j - M) := ⟨_, rfl⟩
                  have ep2 : offs (deg su m) s + deg su (j - M) s = p := by rw [ep, es]; rfl
                  simp only [ep2] at cs
                  have hp : p < m := by
                    have h1 := (posn_range su hk).2
                    have h2 := offs_mono (deg su m) (su (j - M) + 1) (n + 1) (by omega)
                    have h3 := HTOT.out
                    omega
                  have cd := HCS.out.rD.cell (i := p) hp
                  have fd := HCS.out.rD.frozen p
                  obtain ⟨q, eq⟩ : ∃ q, q = sv (j - M) := ⟨_, rfl⟩
                  have hq : q ≤ n := by rw [eq, ESV.out]; exact slotN_le _ _
                  have esl : slotN n (fu (j - M)) = s := by rw [es, ESU.out]
                  have eql : slotN n (tu (j - M)) = q := by rw [eq, ESV.out]
                  have ESL := hid esl
                  have EQL := hid eql
                  clear esl eql
                  have ES := hid es
                  have EP := hid ep
                  have EP2 := hid ep2
                  have EQ := hid eq
                  have i1 : (s : Int) < (n : Int) + 1 := by omega
                  have i2 : (p : Int) < (m : Int) := by omega
                  have n1 : ab ≠ fb := by have := HCS.out.l2; omega
                  have n2 : ab ≠ g' := by have := HCS.out.l1; have := HCS.out.ge; omega
                  clear es ep ep2 eq
                  go_wp2_with fail
                  refine (zz23_any n (fu (j - M)) _ hfk hn).mono ?_
                  rintro e w' ⟨rfl, hw⟩
                  subst hw
                  rw [ESL.out]
                  go_wp2
                  go_region_held3 (fun w' => w'.cell? ⟨fb, s, none⟩ = some (.int .i32 (p : Int)) ∧ w'.cell? ⟨g', j, none⟩ = some (.int .i32 (tu (j - M) : Int))) (go_keep) (first | (go_at_call 23; refine (zz23_any n (tu (j - M)) _ htk hn).mono ?_; rintro e w' ⟨rfl, hw⟩; subst hw; rw [EQL.out]))
                  all_goals go_wp2
                  go_roundw
                  case rel =>
                    repeat apply Exists.intro
                    refine ⟨?_, rfl⟩
                    refine ⟨j + 1, by omega, by omega, by go_num, hid ⟨fun e => if e = p then q else ad e, ?_, ?_, ?_⟩⟩
                    · rw [show j + 1 - M = (j - M) + 1 by omega]
                      exact ((HCS.out.setD p q).setF' s (p + 1) _ (by omega) (fl_step ES.out EP2.out)).drew
                    · exact ad_le HAD1.out hq
                    · exact ad_step HAD2.out hk hj1 EP.out EQ.out
                  case measure => simp [intOf]; omega
                · obtain rfl : mm = j := by omega
                  have hjm : mm - M = m := by have := HMM.out; omega
                  go_wp2
                  have had2 : ∀ i, i < m → ad (posn su m i) = sv i := fun i hi => HAD2.out i (by rw [hjm]; exact hi)
                  have hrel : Sx (offs (deg su m)) ad = fun a b => ∃ j, j < m ∧ slotN n (fu j) = a ∧ slotN n (tu j) = b := by
                    funext x y
                    have := sx_iff had2 x y
                    rw [ESU.out, ESV.out] at this
                    rw [ESU.out]
                    exact propext this
                  exact seg35 w0 wr n m ir ia cb ab cc ca C R A (offs (deg su m)) ad hn hm (fun x _ => Nat.le_add_right _ _) (fun x hx => by have := offs_mono (deg su m) x (n + 1) hx; have := HTOT.out; omega) (fun e _ => HAD1.out e) (by rw [hrel]; exact HLAW.out)
                    (HCS.out.kept.below HB.out HB0.out (fun g h => h.elim)) (Nat.le_trans HB0.out HCS.out.kept.size) hcc hcc2 (HC.out.kept HCS.out.kept (fun _ _ _ h => h)) (HCS.out.kept.row HR.out (fun h => h)) (HCS.out.kept.row HA.out (fun h => h)) HCS.out.rO HCS.out.rD

end Go.Proofs.Qxb6602859a
