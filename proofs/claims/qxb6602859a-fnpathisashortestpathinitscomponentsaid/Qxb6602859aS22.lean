import Derived.Test.Qxb6602859aS21
import Derived.BigQuiet
namespace Go.Proofs.Qxb6602859a
open Go.RowKit Kit
set_option linter.unusedVariables false
set_option linter.unusedSimpArgs false

theorem rest6_0 : restF Try.f6 0 = (itemF Try.f6 0).seq (restF Try.f6 1) := rfl
theorem rest6_1 : restF Try.f6 1 = (itemF Try.f6 1).seq (restF Try.f6 2) := rfl
theorem rest6_2 : restF Try.f6 2 = (itemF Try.f6 2).seq (restF Try.f6 3) := rfl
theorem rest6_3 : restF Try.f6 3 = (itemF Try.f6 3).seq (restF Try.f6 4) := rfl
theorem rest6_4 : restF Try.f6 4 = (itemF Try.f6 4).seq (restF Try.f6 5) := rfl
theorem rest6_5 : restF Try.f6 5 = (itemF Try.f6 5).seq (restF Try.f6 6) := rfl
theorem rest6_6 : restF Try.f6 6 = (itemF Try.f6 6).seq (restF Try.f6 7) := rfl
theorem rest6_7 : restF Try.f6 7 = (itemF Try.f6 7).seq (restF Try.f6 8) := rfl
theorem rest6_8 : restF Try.f6 8 = (itemF Try.f6 8).seq (restF Try.f6 9) := rfl
theorem rest6_9 : restF Try.f6 9 = (itemF Try.f6 9).seq (restF Try.f6 10) := rfl
theorem rest6_10 : restF Try.f6 10 = (itemF Try.f6 10).seq (restF Try.f6 11) := rfl
theorem rest6_11 : restF Try.f6 11 = (itemF Try.f6 11).seq (restF Try.f6 12) := rfl
theorem rest6_12 : restF Try.f6 12 = (itemF Try.f6 12).seq (restF Try.f6 13) := rfl
theorem rest6_13 : restF Try.f6 13 = (itemF Try.f6 13).seq (restF Try.f6 14) := rfl

set_option maxHeartbeats 4000000 in
set_option maxRecDepth 100000 in
theorem t8 (real : Int) (n nt nk oc tc kc u v t : Nat) (m : Int) (oa ta ka : Option Addr) (off T : Nat → Nat) (tz kz : Nat → Int) (w0 w : World) {x9 x10 x11 x12 x13 x14 x15 x16 x17 x18 x19 x20 x21 x22 x23 x24 x25 x26 x27 x28 x29 x30 x31 x32 x33 x34 x35 x36 x37 x38 x39 x40 x41 x42 x43 x44 x45 x46 x47 x48 x49 x50 x51 x52 x53 x54 x55 x56 x57 x58 x59 x60 x61 x62 x63 x64 x65 x66 x67 x68 x69 x70 x71 x72 x73 x74 x75 x76 x77 x78 x79 x80 x81 x82 x83 x84 x85 x86 x87 x88 x89 x90 x91 x92 x93 x94 x95 x96 x97 x98 x99 x100 x101 x102 x103 x104 x105 x106 x107 x108 x109 x110 x111 x112 x113 x114 x115 x116 x117 x118 x119 x120 x121 x122 x123 x124 x125 x126 x127 x128 x129 x130 x131 x132 x133 x134 x135 x136 x137 x138 x139 x140 x141 x142 x143 x144 x145 x146 x147 x148 x149 x150 x151 x152 x153 x154 x155 x156 x157 x158 x159 x160 x161 x162 x163 x164 x165 x166 x167 x168 x169 x170 x171 x172 x173 x174 x175 x176 x177 x178 x179 x180 : Value}
    (rO : Row w 21 (.slice oa (n + 1) oc) (n + 1) (fun i => .int .i32 ((off i : Nat) : Int)))
    (rT : Row w 21 (.slice ta nt tc) nt (fun i => .int .i32 (tz i)))
    (rK : Row w 5 (.slice ka nk kc) nk (fun i => .int .u8 (kz i))) (hF : GF n nt nk off tz T) (hu : u < n) (hv : v < n) (ht : t < n)
    (hB : Below w0.heap.size w0 w) (hB0 : w0.heap.size ≤ w.heap.size) :
    Code.wp Try.prog (restF Try.f6 8) (bodyPost Try.prog Try.f6 (PostT w0)) ⟨#[.int .i64 real, .int .i64 (n : Int), .slice oa (n + 1) oc, .slice ta nt tc, .slice ka nk kc, .int .i32 (u : Int), .int .i32 (v : Int), .int .i32 (t : Int), .int .u8 m, x9, x10, x11, x12, x13, x14, x15, x16, x17, x18, x19, x20, x21, x22, x23, x24, x25, x26, x27, x28, x29, x30, x31, x32, x33, x34, x35, x36, x37, x38, x39, x40, x41, x42, x43, x44, x45, x46, x47, x48, x49, x50, x51, x52, x53, x54, x55, x56, x57, x58, x59, x60, x61, x62, x63, x64, x65, x66, x67, x68, x69, x70, x71, x72, x73, x74, x75, x76, x77, x78, x79, x80, x81, x82, x83, x84, x85, x86, x87, x88, x89, x90, x91, x92, x93, x94, x95, x96, x97, x98, x99, x100, x101, x102, x103, x104, x105, x106, x107, x108, x109, x110, x111, x112, x113, x114, x115, x116, x117, x118, x119, x120, x121, x122, x123, x124, x125, x126, x127, x128, x129, x130, x131, x132, x133, x134, x135, x136, x137, x138, x139, x140, x141, x142, x143, x144, x145, x146, x147, x148, x149, x150, x151, x152, x153, x154, x155, x156, x157, x158, x159, x160, x161, x162, x163, x164, x165, x166, x167, x168, x169, x170, x171, x172, x173, x174, x175, x176, x177, x178, x179, x180], []⟩ w := by
  have HRW := hid (And.intro rO (And.intro rT rK))
  have HF := hid hF
  have HB := hid (And.intro hB hB0)
  have hn := hF.small
  have hz := zzc_any real n nt nk oc tc kc m oa ta ka off T tz kz w rO rT rK hF
  clear rO rT rK hF hB hB0
  rw [rest6_8]
  conv => arg 2; arg 1; whnf
  go_wp2_with fail
  refine hz.mono ?_
  rintro e w1 ⟨cb, comp, rfl, hb1, hcb, hr, hc⟩
  have B1 : Below w0.heap.size w0 w1 := HB.out.1.trans (hb1.mono HB.out.2)
  have hs1 := hb1.size
  have rC : Row w1 21 (.slice (some ⟨cb, 0, none⟩) n n) n (fun i => .int .i32 ((comp i : Nat) : Int)) := ⟨_, _, rfl, Nat.le_refl _, by omega, .inr ⟨cb, rfl, hr⟩⟩
  have cu := hr.cell hu
  have cv := hr.cell hv
  have ct := hr.cell ht
  have HRW1 := hid (And.intro (HRW.out.1.below hb1) (And.intro (HRW.out.2.1.below hb1) (HRW.out.2.2.below hb1)))
  have HC := hid hc
  have HRC := hid rC
  have HB1 := hid (And.intro B1 (Nat.le_trans HB.out.2 hs1))
  clear hr hc hz rC B1 HRW HB hb1 hcb hs1
  go_wp2
  rw [rest6_9]
  conv => arg 2; arg 1; whnf
  have qn : ((n : Int) != (n : Int)) = false := by simp
  go_wp2
  rw [rest6_10]
  conv => arg 2; arg 1; whnf
  have i0 : (0 : Int) ≤ (u : Int) := by omega
  have i1 : (u : Int) < (n : Int) := by omega
  have i2 : (0 : Int) ≤ (v : Int) := by omega
  have i3 : (v : Int) < (n : Int) := by omega
  have i4 : (0 : Int) ≤ (t : Int) := by omega
  have i5 : (t : Int) < (n : Int) := by omega
  obtain ⟨ku, hku⟩ : ∃ ku, comp u = ku := ⟨_, rfl⟩
  obtain ⟨kv, hkv⟩ : ∃ kv, comp v = kv := ⟨_, rfl⟩
  obtain ⟨kt, hkt⟩ : ∃ kt, comp t = kt := ⟨_, rfl⟩
  rw [hku] at cu
  rw [hkv] at cv
  rw [hkt] at ct
  have HKK := hid (And.intro hku (And.intro hkv hkt))
  clear hku hkv hkt
  by_cases h1 : ku = kv
  · by_cases h2 : kv = kt
    · have q1 : ((ku : Int) != (kv : Int)) = false := by simp; omega
      have q2 : ((kv : Int) != (kt : Int)) = false := by simp; omega
      have H12 := hid (And.intro h1 h2)
      clear h1 h2
      go_wp2
      go_quiet (fail)
      go_wp2
      have huv : comp u = comp v := by rw [HKK.out.1, HKK.out.2.1]; exact H12.out.1
      have hvt : comp v = comp t := by rw [HKK.out.2.1, HKK.out.2.2]; exact H12.out.2
      have hut := huv.trans hvt
      have HEQ := hid (And.intro huv hvt)
      have bd : Below w1.heap.size w1 (w1.drewN nq) := below_drewN (Below.refl _ _) nq
      have hR1 := reach_in HF.out.wf HC.out hu ht hut
      have hR2 := reach_in HF.out.wf HC.out hu hv huv
      have hR3 := reach_in HF.out.wf HC.out hv ht hvt
      have hz1 := zzpath_any real n nt nk oc tc kc n m oa ta ka _ off T comp tz kz (w1.drewN nq) u t (HRW1.out.1.below bd) (HRW1.out.2.1.below bd) (HRW1.out.2.2.below bd) HF.out (HRC.out.below bd) hu ht hR1.2
      have HR2 := hid hR2.2
      have HR3 := hid hR3.2
      have HBD := hid bd
      clear huv hvt hut hR1 hR2 hR3 bd
      rw [rest6_11]
      conv => arg 2; arg 1; whnf
      go_wp2_with fail
      refine hz1.mono ?_
      rintro e1 w2 ⟨p1, cap1, D1, f1, rfl, a1, a2, b2, _, P1⟩
      have bd2 : Below w1.heap.size w1 w2 := HBD.out.trans b2
      have hz2 := zzpath_any real n nt nk oc tc kc n m oa ta ka _ off T comp tz kz w2 u v (HRW1.out.1.below bd2) (HRW1.out.2.1.below bd2) (HRW1.out.2.2.below bd2) HF.out (HRC.out.below bd2) hu hv HR2.out
      have HBD2 := hid bd2
      have HP1 := hid P1
      have hD1 := P1.small
      clear bd2 b2 P1 hz1 HBD
      go_wp2
      rw [rest6_12]
      conv => arg 2; arg 1; whnf
      go_wp2_with fail
      refine hz2.mono ?_
      rintro e1 w3 ⟨p2, cap2, D2, f2, rfl, a3, a4, b3, _, P2⟩
      have bd3 : Below w1.heap.size w1 w3 := HBD2.out.trans (b3.mono HBD2.out.size)
      have hz3 := zzpath_any real n nt nk oc tc kc n m oa ta ka _ off T comp tz kz w3 v t (HRW1.out.1.below bd3) (HRW1.out.2.1.below bd3) (HRW1.out.2.2.below bd3) HF.out (HRC.out.below bd3) hv ht HR3.out
      have HBD3 := hid bd3
      have HP2 := hid P2
      have hD2 := P2.small
      clear bd3 b3 P2 hz2
      go_wp2
      rw [rest6_13]
      conv => arg 2; arg 1; whnf
      go_wp2_with fail
      refine hz3.mono ?_
      rintro e1 w4 ⟨p3, cap3, D3, f3, rfl, a5, a6, b4, _, P3⟩
      have bd4 : Below w1.heap.size w1 w4 := HBD3.out.trans (b4.mono HBD3.out.size)
      have HP3 := hid P3
      have hD3 := P3.small
      have hle : D1 ≤ D2 + D3 := by
        have w2' := HP2.out.walk
        have w3' := P3.walk
        rw [← HEQ.out.1] at w3'
        exact HP1.out.least _ (w2'.trans w3')
      have HB4 := hid (HB1.out.1.trans (bd4.mono HB1.out.2))
      clear bd4 b4 P3 hz3
      go_wp2
      conv => arg 2; whnf
      have ql : decide ((D1 : Int) + 1 ≤ (D2 : Int) + 1 + ((D3 : Int) + 1) - 1) = true := decide_eq_true (by omega)
      go_wp2
      go_ret
      exact ⟨rfl, HB4.out⟩
    · have q1 : ((ku : Int) != (kv : Int)) = false := by simp; omega
      have q2 : ((kv : Int) != (kt : Int)) = true := by simp; omega
      clear h1 h2
      go_wp2
      go_quiet (fail)
      go_wp2
      go_ret
      exact ⟨rfl, below_drewN HB1.out.1 _⟩
  · have q1 : ((ku : Int) != (kv : Int)) = true := by simp; omega
    clear h1
    go_wp2
    go_quiet (fail)
    go_wp2
    go_ret
    exact ⟨rfl, below_drewN HB1.out.1 _⟩


end Go.Proofs.Qxb6602859a
