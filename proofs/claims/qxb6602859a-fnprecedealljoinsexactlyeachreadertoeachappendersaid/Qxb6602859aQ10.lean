import Derived.Test.Qxb6602859aQ9
namespace Go.Proofs.Qxb6602859a
open Go.RowKit Kit
set_option linter.unusedVariables false
set_option linter.unusedSimpArgs false

theorem Row.slice {w : World} {t : TypeId} {a : Option Addr} {n c : Nat} {f : Nat → Value} (h : Row w t (.slice a n c) n f) : n ≤ c ∧ c ≤ 9223372036854775807 ∧ ∀ i, i < n → ∃ g, a = some ⟨g, 0, none⟩ ∧ w.cell? ⟨g, i, none⟩ = some (f i) := by
  obtain ⟨a', c', e, h1, h2, h3⟩ := h.parts
  cases e
  exact ⟨h1, h2, h3⟩

/-- the input, read -/
structure Inp (w : World) (n M nr na cc fc tc kc rc ac : Nat) (ca fa ta ka ra aa : Option Addr) (C : Nat → Bool) (f t k : Nat → Int) (r a : Nat → Nat) : Prop where
  rC : Row w 4 (.slice ca n cc) n (fun i => .bool (C i))
  rF : Row w 21 (.slice fa M fc) M (fun i => .int .i32 (f i))
  rT : Row w 21 (.slice ta M tc) M (fun i => .int .i32 (t i))
  rK : Row w 5 (.slice ka M kc) M (fun i => .int .u8 (k i))
  rR : Row w 3 (.slice ra nr rc) nr (fun i => .int .i64 (r i : Int))
  rA : Row w 3 (.slice aa na ac) na (fun i => .int .i64 (a i : Int))

theorem Inp.later {w wr : World} {n M nr na cc fc tc kc rc ac : Nat} {ca fa ta ka ra aa : Option Addr} {C : Nat → Bool} {f t k : Nat → Int} {r a : Nat → Nat} (h : Inp w n M nr na cc fc tc kc rc ac ca fa ta ka ra aa C f t k r a) (hk : Kept (fun _ => False) w wr) : Inp wr n M nr na cc fc tc kc rc ac ca fa ta ka ra aa C f t k r a :=
  ⟨h.rC.kept hk (fun _ _ _ h => h), h.rF.kept hk (fun _ _ _ h => h), h.rT.kept hk (fun _ _ _ h => h), h.rK.kept hk (fun _ _ _ h => h), h.rR.kept hk (fun _ _ _ h => h), h.rA.kept hk (fun _ _ _ h => h)⟩

def eu (new : List Edge) (j : Nat) : Nat := (new.getD j (0, 0, 0)).1.toNat
def et (new : List Edge) (j : Nat) : Nat := (new.getD j (0, 0, 0)).2.1.toNat

theorem newIs_get {C : Nat → Bool} {n : Nat} {new : List Edge} {Pr : Nat → Nat → Prop} (h : NewIs C n new Pr) {j : Nat} (hj : j < new.length) : new.getD j (0, 0, 0) = ((eu new j : Int), (et new j : Int), 4) ∧ Pr (eu new j) (et new j) ∧ good C n (eu new j) (et new j) := by
  have hm : new.getD j (0, 0, 0) ∈ new := by
    rw [List.getD_eq_getElem?_getD, List.getElem?_eq_getElem hj]; exact List.getElem_mem hj
  obtain ⟨u, v, e, h1, h2⟩ := (h _).1 hm
  have e1 : eu new j = u := by unfold eu; rw [e]; simp
  have e2 : et new j = v := by unfold et; rw [e]; simp
  rw [e1, e2]
  exact ⟨e, h1, h2⟩

theorem newIs_rel {C : Nat → Bool} {r : Nat → Nat} {n nr N : Nat} {bo ot : List Nat} {new : List Edge} (h : NewIs C n new (PrSpec r nr bo ot N)) : (fun a b => ∃ j, j < new.length ∧ slotN n (eu new j) = a ∧ slotN n (et new j) = b) = Ed C r n nr N bo ot := by
  funext a b
  apply propext
  constructor
  · rintro ⟨j, hj, h1, h2⟩
    obtain ⟨_, h3, h4⟩ := newIs_get h hj
    exact ⟨_, _, h3, h4, h1, h2⟩
  · rintro ⟨u, v, h1, h2, h3, h4⟩
    have hm := (h ((u : Int), (v : Int), 4)).2 ⟨u, v, rfl, h1, h2⟩
    obtain ⟨j, hj, e⟩ := List.getElem_of_mem hm
    have e' : new.getD j (0, 0, 0) = ((u : Int), (v : Int), 4) := by rw [List.getD_eq_getElem?_getD, List.getElem?_eq_getElem hj]; exact e
    exact ⟨j, hj, by unfold eu; rw [e']; simpa using h3, by unfold et; rw [e']; simpa using h4⟩

def vi (r : Nat → Nat) (nr : Nat) (a : Nat → Nat) (na : Nat) : Bool := !(oth r nr a na).isEmpty

theorem vi_true {r : Nat → Nat} {nr : Nat} {a : Nat → Nat} {na : Nat} : vi r nr a na = true ↔ oth r nr a na ≠ [] := by
  unfold vi
  cases oth r nr a na <;> simp

theorem getD_old (f t k : Nat → Int) (M : Nat) (new : List Edge) {j : Nat} (hj : j < M) : (edges f t k M ++ new).getD j (0, 0, 0) = (f j, t j, k j) := by
  have hl : j < (edges f t k M).length := by simpa [edges] using hj
  rw [List.getD_eq_getElem?_getD, List.getElem?_append_left hl]
  simp [edges, hj]

theorem getD_new (f t k : Nat → Int) (M : Nat) (new : List Edge) {j : Nat} (hj : M ≤ j) : (edges f t k M ++ new).getD j (0, 0, 0) = new.getD (j - M) (0, 0, 0) := by
  have hl : (edges f t k M).length = M := by simp [edges]
  rw [List.getD_eq_getElem?_getD, List.getElem?_append_right (by omega), hl, List.getD_eq_getElem?_getD]

set_option maxHeartbeats 4000000 in
set_option maxRecDepth 100000 in
theorem seg19 (w0 w : World) (n N M ir ia cc fc tc kc nr na rc ac : Nat) (ca fa ta ka ra aa : Option Addr) (C : Nat → Bool) (f t k : Nat → Int) (r a : Nat → Nat) {x7 x8 x9 x10 x11 x12 x13 x14 x15 x16 x17 x18 x19 x20 x22 x23 x26 x27 x28 x29 x30 x31 x32 x33 x34 x35 x36 x37 x38 x39 x40 x41 x42 x43 x44 x45 x46 x47 x48 x49 x50 x51 x52 x53 x54 x55 x56 x57 x58 x59 x60 x61 x62 x63 x64 x65 x66 x67 x68 x69 x70 x71 x72 x73 x74 x75 x76 x77 x78 x79 x80 x81 x82 x83 x84 x85 x86 x87 x88 x89 x90 x91 x92 x93 x94 x95 x96 x97 x98 x99 x100 x101 x102 x103 x104 x105 x106 x107 x108 x109 x110 x111 x112 x113 x114 x115 x116 x117 x118 x119 x120 x121 x122 x123 x124 x125 x126 x127 x128 x129 x130 x131 x132 x133 x134 x135 x136 x137 x138 x139 x140 x141 x142 x143 x144 x145 x146 x147 x148 x149 x150 x151 x152 x153 x154 x155 x156 x157 x158 x159 x160 x161 x162 x163 x164 x165 x166 x167 x168 x169 x170 x171 x172 x173 x174 x175 x176 x177 x178 x179 x180 x181 x182 x183 x184 x185 x186 x187 x188 x189 x190 x191 x192 x193 x194 x195 x196 x197 x198 x199 x200 x201 x202 x203 x204 x205 x206 x207 x208 x209 x210 x211 x212 x213 x214 x215 x216 x217 x218 x219 x220 x221 x222 x223 x224 x225 x226 x227 x228 x229 x230 x231 x232 x233 x234 x235 x236 x237 x238 x239 x240 x241 x242 x243 x244 x245 x246 x247 x248 x249 x250 x251 x252 x253 x254 x255 x256 x257 x258 x259 x260 x261 x262 x263 x264 x265 x266 x267 x268 x269 x270 x271 x272 x273 x274 x275 x276 x277 x278 x279 x280 x281 x282 x283 x284 x285 x286 x287 x288 x289 x290 x291 x292 x293 x294 x295 x296 x297 x298 x299 x300 x301 x302 x303 x304 x305 x306 x307 x308 x309 x310 x311 x312 x313 x314 x315 x316 x317 x318 x319 x320 x321 x322 x323 x324 x325 x326 x327 x328 x329 x330 x331 x332 x333 x334 x335 x336 x337 x338 x339 x340 x341 x342 x343 x344 x345 x346 x347 x348 x349 x350 x351 x352 x353 x354 x355 x356 x357 x358 x359 x360 x361 x362 x363 x364 x365 x366 x367 x368 x369 x370 x371 x372 x373 x374 x375 x376 x377 x378 x379 x380 x381 x382 x383 x384 x385 x386 x387 x388 x389 x390 x391 x392 x393 x394 x395 x396 x397 x398 x399 x400 x401 x402 x403 x404 x405 x406 x407 x408 x409 x410 x411 x412 x413 x414 x415 x416 x417 x418 x419 x420 x421 x422 x423 x424 x425 x426 x427 x428 x429 x430 x431 x432 x433 x434 x435 x436 x437 x438 x439 x440 x441 x442 x443 x444 x445 x446 x447 x448 x449 x450 x451 x452 x453 x454 x455 x456 x457 x458 x459 x460 x461 x462 x463 x464 x465 x466 x467 x468 x469 x470 x471 x472 x473 x474 x475 x476 x477 x478 x479 x480 x481 x482 x483 x484 x485 x486 x487 x488 x489 x490 x491 x492 x493 x494 x495 x496 x497 x498 x499 x500 x501 x502 x503 x504 x505 x506 x507 x508 x509 x510 x511 x512 x513 x514 x515 x516 x517 x518 x519 x520 x521 x522 x523 x524 x525 x526 x527 x528 x529 x530 x531 x532 x533 x534 x535 x536 x537 x538 x539 x540 x541 x542 x543 x544 x545 x546 x547 x548 x549 x550 x551 x552 x553 x554 x555 x556 x557 x558 x559 x560 x561 x562 x563 x564 x565 x566 x567 x568 x569 x570 x571 x572 x573 x574 x575 x576 x577 x578 x579 x580 x581 x582 x583 x584 x585 x586 x587 x588 x589 x590 x591 x592 x593 x594 x595 x596 x597 x598 x599 x600 x601 x602 x603 x604 x605 x606 x607 x608 x609 x610 x611 x612 : Value}
   (hinp : Inp w n M nr na cc fc tc kc rc ac ca fa ta ka ra aa C f t k r a) (hn4 : n ≤ 4096) (hM : M ≤ 65536) (hnr : nr ≤ 4096) (hna : na ≤ 4096) (hn : n ≤ N) (hN : N ≤ 2147483647) (hr : ∀ i, i < nr → r i < n) (ha : ∀ i, i < na → a i < n)
   (hboth : ∀ x, x < n → memI r nr (x : Int) = true → memI a na (x : Int) = true → C x = true)
   (rR : w.rowIs ir 4 n (fun x => .bool (memI r nr (x : Int)))) (rA : w.rowIs ia 4 n (fun x => .bool (memI a na (x : Int)))) (hB : Below w0.heap.size w0 w) (hB0 : w0.heap.size ≤ w.heap.size) :
  Code.wp Try.prog (restF Try.f7 19) (bodyPost Try.prog Try.f7 (Post7 w0)) ⟨#[.slice ca n cc, .int .i64 (N : Int), .slice fa M fc, .slice ta M tc, .slice ka M kc, .slice ra nr rc, .slice aa na ac, x7, x8, x9, x10, x11, x12, x13, x14, x15, x16, x17, x18, x19, x20, .int .i64 (n : Int), x22, x23, .slice (some ⟨ir, 0, none⟩) n n, .slice (some ⟨ia, 0, none⟩) n n, x26, x27, x28, x29, x30, x31, x32, x33, x34, x35, x36, x37, x38, x39, x40, x41, x42, x43, x44, x45, x46, x47, x48, x49, x50, x51, x52, x53, x54, x55, x56, x57, x58, x59, x60, x61, x62, x63, x64, x65, x66, x67, x68, x69, x70, x71, x72, x73, x74, x75, x76, x77, x78, x79, x80, x81, x82, x83, x84, x85, x86, x87, x88, x89, x90, x91, x92, x93, x94, x95, x96, x97, x98, x99, x100, x101, x102, x103, x104, x105, x106, x107, x108, x109, x110, x111, x112, x113, x114, x115, x116, x117, x118, x119, x120, x121, x122, x123, x124, x125, x126, x127, x128, x129, x130, x131, x132, x133, x134, x135, x136, x137, x138, x139, x140, x141, x142, x143, x144, x145, x146, x147, x148, x149, x150, x151, x152, x153, x154, x155, x156, x157, x158, x159, x160, x161, x162, x163, x164, x165, x166, x167, x168, x169, x170, x171, x172, x173, x174, x175, x176, x177, x178, x179, x180, x181, x182, x183, x184, x185, x186, x187, x188, x189, x190, x191, x192, x193, x194, x195, x196, x197, x198, x199, x200, x201, x202, x203, x204, x205, x206, x207, x208, x209, x210, x211, x212, x213, x214, x215, x216, x217, x218, x219, x220, x221, x222, x223, x224, x225, x226, x227, x228, x229, x230, x231, x232, x233, x234, x235, x236, x237, x238, x239, x240, x241, x242, x243, x244, x245, x246, x247, x248, x249, x250, x251, x252, x253, x254, x255, x256, x257, x258, x259, x260, x261, x262, x263, x264, x265, x266, x267, x268, x269, x270, x271, x272, x273, x274, x275, x276, x277, x278, x279, x280, x281, x282, x283, x284, x285, x286, x287, x288, x289, x290, x291, x292, x293, x294, x295, x296, x297, x298, x299, x300, x301, x302, x303, x304, x305, x306, x307, x308, x309, x310, x311, x312, x313, x314, x315, x316, x317, x318, x319, x320, x321, x322, x323, x324, x325, x326, x327, x328, x329, x330, x331, x332, x333, x334, x335, x336, x337, x338, x339, x340, x341, x342, x343, x344, x345, x346, x347, x348, x349, x350, x351, x352, x353, x354, x355, x356, x357, x358, x359, x360, x361, x362, x363, x364, x365, x366, x367, x368, x369, x370, x371, x372, x373, x374, x375, x376, x377, x378, x379, x380, x381, x382, x383, x384, x385, x386, x387, x388, x389, x390, x391, x392, x393, x394, x395, x396, x397, x398, x399, x400, x401, x402, x403, x404, x405, x406, x407, x408, x409, x410, x411, x412, x413, x414, x415, x416, x417, x418, x419, x420, x421, x422, x423, x424, x425, x426, x427, x428, x429, x430, x431, x432, x433, x434, x435, x436, x437, x438, x439, x440, x441, x442, x443, x444, x445, x446, x447, x448, x449, x450, x451, x452, x453, x454, x455, x456, x457, x458, x459, x460, x461, x462, x463, x464, x465, x466, x467, x468, x469, x470, x471, x472, x473, x474, x475, x476, x477, x478, x479, x480, x481, x482, x483, x484, x485, x486, x487, x488, x489, x490, x491, x492, x493, x494, x495, x496, x497, x498, x499, x500, x501, x502, x503, x504, x505, x506, x507, x508, x509, x510, x511, x512, x513, x514, x515, x516, x517, x518, x519, x520, x521, x522, x523, x524, x525, x526, x527, x528, x529, x530, x531, x532, x533, x534, x535, x536, x537, x538, x539, x540, x541, x542, x543, x544, x545, x546, x547, x548, x549, x550, x551, x552, x553, x554, x555, x556, x557, x558, x559, x560, x561, x562, x563, x564, x565, x566, x567, x568, x569, x570, x571, x572, x573, x574, x575, x576, x577, x578, x579, x580, x581, x582, x583, x584, x585, x586, x587, x588, x589, x590, x591, x592, x593, x594, x595, x596, x597, x598, x599, x600, x601, x602, x603, x604, x605, x606, x607, x608, x609, x610, x611, x612], []⟩ w := by
  have HI := hid hinp
  have HR := hid rR
  have HA := hid rA
  have HHR := hid hr
  have HHA := hid ha
  have HBO := hid hboth
  have HB := hid hB
  have HB0 := hid hB0
  clear hinp rR rA hr ha hboth hB hB0
  rw [rest7_19]
  conv => arg 2; arg 1; whnf
  go_wp2_with fail
  refine (zzp_any n M nr na C r a f t k _ _ _ _ _ _ N w hM hnr hna hn hN HHR.out HHA.out HI.out.rF HI.out.rT HI.out.rK HI.out.rR HI.out.rA HI.out.rC).mono ?_
  rintro e w' ⟨new, fv, tv, kv, rfl, hF, hT, hK, hnew, hlen, hbel⟩
  obtain ⟨nfa, nfc, rfl, f1, f2, hF⟩ := hF.parts
  obtain ⟨nta, ntc, rfl, t1, t2, hT⟩ := hT.parts
  obtain ⟨nka, nkc, rfl, k1, k2, hK⟩ := hK.parts
  obtain ⟨NN, eNN⟩ : ∃ NN : Int, NN = ((if oth r nr a na = [] then N else N + 1 : Nat) : Int) := ⟨_, rfl⟩
  obtain ⟨mm, emm⟩ : ∃ mm, mm = M + new.length := ⟨_, rfl⟩
  rw [← eNN, ← emm]
  have hk : Kept (fun _ => False) w w' := Kept.of_below hbel
  have HNN : Hid (NN = (N : Int) + (if vi r nr a na then 1 else 0)) := hid (by
    rw [eNN]
    by_cases h : oth r nr a na = []
    · have : vi r nr a na = false := by unfold vi; rw [h]; rfl
      rw [if_pos h, this]; simp
    · rw [if_neg h, vi_true.2 h]; simp)
  have hends := fun (j : Nat) (hj : j < new.length) => pr_ends HHR.out HHA.out hn (newIs_get hnew hj).2.1
  have HST : Hid (St w0 w' n N new.length M mm ir ia cc nfc ntc nkc ca nfa nta nka C (fun x => memI r nr (x : Int)) (fun x => memI a na (x : Int)) (eu new) (et new) (vi r nr a na)) := hid (by
    refine ⟨hn4, hN, emm, by omega, hM, ?_, ?_, ?_, ?_, HI.out.rC.slice.1, HI.out.rC.slice.2.1, by omega, f2, by omega, t2, by omega, k2, ?_, Nat.le_trans HB0.out hk.size, HI.out.rC.kept hk (fun _ _ _ h => h), hk.row HR.out (fun h => h), hk.row HA.out (fun h => h), ?_, ?_, ?_⟩
    · intro j hj
      have hg := (newIs_get hnew hj).2.2
      rcases (hends j hj).1 with ⟨h1, _⟩ | ⟨h1, h2⟩
      · exact .inl ⟨h1, hg.2.1 h1⟩
      · exact .inr ⟨by omega, vi_true.2 h2, h1⟩
    · intro j hj
      have hg := (newIs_get hnew hj).2.2
      rcases (hends j hj).2 with ⟨h1, _⟩ | ⟨h1, h2⟩
      · exact .inl ⟨h1, hg.2.2 h1⟩
      · exact .inr ⟨by omega, vi_true.2 h2, h1⟩
    · intro j hj
      exact (newIs_get hnew hj).2.2.1
    · intro x hx y hy hne
      rw [newIs_rel hnew]
      exact plain_law HHR.out HHA.out hn HBO.out hx hy hne
    · exact hk.below HB.out HB0.out (fun g h => h.elim)
    · intro j h1 h2
      obtain ⟨g, e, hc⟩ := hF j (by omega)
      rw [getD_new f t k M new h1, (newIs_get hnew (j := j - M) (by omega)).1] at hc
      exact ⟨g, e, hc⟩
    · intro j h1 h2
      obtain ⟨g, e, hc⟩ := hT j (by omega)
      rw [getD_new f t k M new h1, (newIs_get hnew (j := j - M) (by omega)).1] at hc
      exact ⟨g, e, hc⟩
    · intro j h1 h2
      obtain ⟨g, e, hc⟩ := hK j (by omega)
      rw [getD_new f t k M new h1, (newIs_get hnew (j := j - M) (by omega)).1] at hc
      exact ⟨g, e, hc⟩)
  have HVI : Hid (Vi w' n nr na rc ac ra aa (fun x => memI r nr (x : Int)) a (vi r nr a na)) := hid (by
    have hI := HI.out.later hk
    refine ⟨HHA.out, ?_, ?_, hnr, hna, hI.rR.slice.1, hI.rR.slice.2.1, hI.rA.slice.1, hI.rA.slice.2.1, hI.rA.slice.2.2⟩
    · intro h
      have h := vi_true.1 h
      obtain ⟨x, hx⟩ := List.exists_mem_of_ne_nil _ h
      have hm := ot_mem HHA.out hx
      obtain ⟨i, hi, e⟩ := (memI_iff a x na).1 hm.2.2.1
      exact ⟨hm.2.2.2, i, hi, by rw [e]; exact hm.2.1⟩
    · intro h
      by_cases h0 : nr = 0
      · exact .inl h0
      · refine .inr (fun i hi => ?_)
        cases hm : memI r nr (a i : Int)
        · have : a i ∈ oth r nr a na := by
            unfold oth
            rw [if_neg h0]
            exact pick_mem.2 ⟨⟨i, hi, rfl⟩, hm⟩
          have h2 := vi_true.2 (fun e => by rw [e] at this; cases this)
          rw [h2] at h; cases h
        · rfl)
  have HOL : Hid (Old w' M fc tc kc fa ta ka nfa nta nka f t k) := hid (by
    have hI := HI.out.later hk
    refine ⟨hI.rF.slice.1, hI.rF.slice.2.1, hI.rT.slice.1, hI.rT.slice.2.1, hI.rK.slice.1, hI.rK.slice.2.1, hI.rF.slice.2.2, hI.rT.slice.2.2, hI.rK.slice.2.2, ?_, ?_, ?_⟩
    · intro j hj
      obtain ⟨g, e, hc⟩ := hF j (by omega)
      rw [getD_old f t k M new hj] at hc
      exact ⟨g, e, hc⟩
    · intro j hj
      obtain ⟨g, e, hc⟩ := hT j (by omega)
      rw [getD_old f t k M new hj] at hc
      exact ⟨g, e, hc⟩
    · intro j hj
      obtain ⟨g, e, hc⟩ := hK j (by omega)
      rw [getD_old f t k M new hj] at hc
      exact ⟨g, e, hc⟩)
  clear hends hF hT hK hnew hbel hk eNN emm f1 t1 k1 hlen
  go_wp2
  exact seg20 w0 w' n N new.length M mm ir ia cc fc tc kc nfc ntc nkc nr na rc ac ca fa ta ka nfa nta nka ra aa C _ _ _ _ a f t k _ NN HST.out HNN HVI.out HOL.out

end Go.Proofs.Qxb6602859a
