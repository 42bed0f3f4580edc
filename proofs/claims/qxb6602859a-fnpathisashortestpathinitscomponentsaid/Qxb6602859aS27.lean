import Derived.Test.Qxb6602859aS25
import Derived.Test.Qxb6602859aS26
import Derived.Test.Qxb6602859aS24
namespace Go.Proofs.Qxb6602859a
open Go.RowKit Kit
set_option linter.unusedVariables false
set_option linter.unusedSimpArgs false

theorem rest5_0 : restF Try.f5 0 = (itemF Try.f5 0).seq (restF Try.f5 1) := rfl
theorem rest5_1 : restF Try.f5 1 = (itemF Try.f5 1).seq (restF Try.f5 2) := rfl
theorem rest5_2 : restF Try.f5 2 = (itemF Try.f5 2).seq (restF Try.f5 3) := rfl
theorem rest5_3 : restF Try.f5 3 = (itemF Try.f5 3).seq (restF Try.f5 4) := rfl
theorem rest5_4 : restF Try.f5 4 = (itemF Try.f5 4).seq (restF Try.f5 5) := rfl
theorem rest5_5 : restF Try.f5 5 = (itemF Try.f5 5).seq (restF Try.f5 6) := rfl
theorem rest5_6 : restF Try.f5 6 = (itemF Try.f5 6).seq (restF Try.f5 7) := rfl
theorem rest5_7 : restF Try.f5 7 = (itemF Try.f5 7).seq (restF Try.f5 8) := rfl
theorem rest5_8 : restF Try.f5 8 = (itemF Try.f5 8).seq (restF Try.f5 9) := rfl
theorem rest5_9 : restF Try.f5 9 = (itemF Try.f5 9).seq (restF Try.f5 10) := rfl
theorem rest5_10 : restF Try.f5 10 = (itemF Try.f5 10).seq (restF Try.f5 11) := rfl
theorem rest5_11 : restF Try.f5 11 = (itemF Try.f5 11).seq (restF Try.f5 12) := rfl
theorem rest5_12 : restF Try.f5 12 = (itemF Try.f5 12).seq (restF Try.f5 13) := rfl
theorem rest5_13 : restF Try.f5 13 = (itemF Try.f5 13).seq (restF Try.f5 14) := rfl
theorem rest5_14 : restF Try.f5 14 = (itemF Try.f5 14).seq (restF Try.f5 15) := rfl
theorem rest5_15 : restF Try.f5 15 = (itemF Try.f5 15).seq (restF Try.f5 16) := rfl

/-- the length that the relaxation finds is the path's -/
theorem relax_eq {n : Nat} {off T comp : Nat → Nat} {km : Nat → Bool} {u v D0 : Nat} {D : Nat → Int} {p : Nat → Nat} (hv : v < n) (hf : Rf n off T km u D)
    (hk : ∀ k, Wk (Ed n off T km) k u v → Wk (EdO n off T km (fun y => comp y == comp u)) k u v) (hp : IsPath n off T km (fun y => comp y == comp u) u v p D0) : D v = (D0 : Int) := by
  have h1 := hf.upTo D0 v (Nat.le_of_lt hp.small) hv (Wk.weak D0 v hp.walk)
  have h2 := hp.least _ (hk _ (hf.sound v hv h1.1))
  omega

theorem IsPath.okAt {n : Nat} {off T comp : Nat → Nat} {km : Nat → Bool} {u v D0 : Nat} {p : Nat → Nat} (hp : IsPath n off T km (fun y => comp y == comp u) u v p D0) : ∀ i, i ≤ D0 → comp (p i) = comp u
  | 0, _ => by rw [hp.first]
  | i + 1, h => by
    have := (hp.edge i (by omega)).2
    simpa using this

set_option maxHeartbeats 8000000 in
set_option maxRecDepth 100000 in
theorem e8 (real : Int) (n nt nk oc tc kc u v : Nat) (m : Int) (oa ta ka : Option Addr) (off T : Nat → Nat) (tz kz : Nat → Int) (w0 w : World) {x8 x9 x10 x11 x12 x13 x14 x15 x16 x17 x18 x19 x20 x21 x22 x23 x24 x25 x26 x27 x28 x29 x30 x31 x32 x33 x34 x35 x36 x37 x38 x39 x40 x41 x42 x43 x44 x45 x46 x47 x48 x49 x50 x51 x52 x53 x54 x55 x56 x57 x58 x59 x60 x61 x62 x63 x64 x65 x66 x67 x68 x69 x70 x71 x72 x73 x74 x75 x76 x77 x78 x79 x80 x81 x82 x83 x84 x85 x86 x87 x88 x89 x90 x91 x92 x93 x94 x95 x96 x97 x98 x99 x100 x101 x102 x103 x104 x105 x106 x107 x108 x109 x110 x111 x112 x113 x114 x115 x116 x117 x118 x119 x120 x121 x122 x123 x124 x125 x126 x127 x128 x129 x130 x131 x132 x133 x134 x135 x136 x137 x138 x139 x140 x141 x142 x143 x144 x145 x146 x147 x148 x149 x150 x151 x152 x153 x154 x155 x156 x157 x158 x159 x160 x161 x162 x163 x164 x165 x166 x167 x168 x169 x170 x171 x172 x173 x174 x175 x176 x177 x178 x179 x180 x181 x182 x183 x184 x185 x186 x187 x188 x189 x190 x191 x192 x193 x194 x195 x196 x197 x198 x199 x200 x201 x202 x203 x204 x205 x206 x207 x208 : Value}
    (rO : Row w 21 (.slice oa (n + 1) oc) (n + 1) (fun i => .int .i32 ((off i : Nat) : Int)))
    (rT : Row w 21 (.slice ta nt tc) nt (fun i => .int .i32 (tz i)))
    (rK : Row w 5 (.slice ka nk kc) nk (fun i => .int .u8 (kz i))) (hF : GF n nt nk off tz T) (hn4 : n ≤ 4096) (hnt4 : nt ≤ 4096) (hu : u < n) (hv : v < n)
    (hB : Below w0.heap.size w0 w) (hB0 : w0.heap.size ≤ w.heap.size) :
    Code.wp Try.prog (restF Try.f5 8) (bodyPost Try.prog Try.f5 (PostT w0)) ⟨#[.int .i64 real, .int .i64 (n : Int), .slice oa (n + 1) oc, .slice ta nt tc, .slice ka nk kc, .int .i32 (u : Int), .int .i32 (v : Int), .int .u8 m, x8, x9, x10, x11, x12, x13, x14, x15, x16, x17, x18, x19, x20, x21, x22, x23, x24, x25, x26, x27, x28, x29, x30, x31, x32, x33, x34, x35, x36, x37, x38, x39, x40, x41, x42, x43, x44, x45, x46, x47, x48, x49, x50, x51, x52, x53, x54, x55, x56, x57, x58, x59, x60, x61, x62, x63, x64, x65, x66, x67, x68, x69, x70, x71, x72, x73, x74, x75, x76, x77, x78, x79, x80, x81, x82, x83, x84, x85, x86, x87, x88, x89, x90, x91, x92, x93, x94, x95, x96, x97, x98, x99, x100, x101, x102, x103, x104, x105, x106, x107, x108, x109, x110, x111, x112, x113, x114, x115, x116, x117, x118, x119, x120, x121, x122, x123, x124, x125, x126, x127, x128, x129, x130, x131, x132, x133, x134, x135, x136, x137, x138, x139, x140, x141, x142, x143, x144, x145, x146, x147, x148, x149, x150, x151, x152, x153, x154, x155, x156, x157, x158, x159, x160, x161, x162, x163, x164, x165, x166, x167, x168, x169, x170, x171, x172, x173, x174, x175, x176, x177, x178, x179, x180, x181, x182, x183, x184, x185, x186, x187, x188, x189, x190, x191, x192, x193, x194, x195, x196, x197, x198, x199, x200, x201, x202, x203, x204, x205, x206, x207, x208], []⟩ w := by
  have HRW := hid (And.intro rO (And.intro rT rK))
  have HF := hid hF
  have HB := hid (And.intro hB hB0)
  have hn := hF.small
  have hz := zzc_any real n nt nk oc tc kc m oa ta ka off T tz kz w rO rT rK hF
  clear rO rT rK hF hB hB0
  rw [rest5_8]
  conv => arg 2; arg 1; whnf
  go_wp2_with fail
  refine hz.mono ?_
  rintro e w1 ⟨cb, comp, rfl, hb1, hcb, hr, hc⟩
  have B1 : Below w0.heap.size w0 w1 := HB.out.1.trans (hb1.mono HB.out.2)
  have hs1 := hb1.size
  have rC : Row w1 21 (.slice (some ⟨cb, 0, none⟩) n n) n (fun i => .int .i32 ((comp i : Nat) : Int)) := ⟨_, _, rfl, Nat.le_refl _, by omega, .inr ⟨cb, rfl, hr⟩⟩
  have cu := hr.cell hu
  have cv := hr.cell hv
  have HRW1 := hid (And.intro (HRW.out.1.below hb1) (And.intro (HRW.out.2.1.below hb1) (HRW.out.2.2.below hb1)))
  have HC := hid hc
  have HRC := hid rC
  have HB1 := hid (And.intro B1 (Nat.le_trans HB.out.2 hs1))
  clear hr hc hz rC B1 HRW HB hb1 hcb hs1
  go_wp2
  rw [rest5_9]
  conv => arg 2; arg 1; whnf
  have qn : ((n : Int) != (n : Int)) = false := by simp
  go_wp2
  rw [rest5_10]
  conv => arg 2; arg 1; whnf
  have i0 : (0 : Int) ≤ (u : Int) := by omega
  have i1 : (u : Int) < (n : Int) := by omega
  have i2 : (0 : Int) ≤ (v : Int) := by omega
  have i3 : (v : Int) < (n : Int) := by omega
  obtain ⟨ku, hku⟩ : ∃ ku, comp u = ku := ⟨_, rfl⟩
  obtain ⟨kv, hkv⟩ : ∃ kv, comp v = kv := ⟨_, rfl⟩
  rw [hku] at cu
  rw [hkv] at cv
  have HKK := hid (And.intro hku hkv)
  clear hku hkv
  by_cases h1 : ku = kv
  · have q1 : ((ku : Int) != (kv : Int)) = false := by simp; omega
    have H1 := hid h1
    clear h1
    go_wp2
    go_quiet (fail)
    go_wp2
    have huv : comp u = comp v := by rw [HKK.out.1, HKK.out.2]; exact H1.out
    have bd : Below w1.heap.size w1 (w1.drewN nq) := below_drewN (Below.refl _ _) nq
    have hR := reach_in HF.out.wf HC.out hu hv huv
    have hz1 := zzpath_any real n nt nk oc tc kc n m oa ta ka _ off T comp tz kz (w1.drewN nq) u v (HRW1.out.1.below bd) (HRW1.out.2.1.below bd) (HRW1.out.2.2.below bd) HF.out (HRC.out.below bd) hu hv hR.2
    have HRK := hid hR.1
    have HBD := hid bd
    clear huv hR bd
    rw [rest5_11]
    conv => arg 2; arg 1; whnf
    go_wp2_with fail
    refine hz1.mono ?_
    rintro e1 w2 ⟨pb, cap, D0, p, rfl, a1, a2, b2, hcl, P1⟩
    have bd2 : Below w1.heap.size w1 w2 := HBD.out.trans b2
    have hz2 := relax_any n nt nk oc tc kc u v m oa ta ka off T tz kz w2 (HRW1.out.1.below bd2) (HRW1.out.2.1.below bd2) (HRW1.out.2.2.below bd2) HF.out hn4 hnt4 hu hv
    have HBD2 := hid bd2
    have HP1 := hid P1
    have HCL := hid hcl
    have hD0 := P1.small
    clear bd2 b2 P1 hz1 HBD hcl
    go_wp2
    rw [rest5_12]
    conv => arg 2; arg 1; whnf
    go_wp2_with fail
    refine hz2.mono ?_
    rintro e1 w3 ⟨D, rfl, b3, hrf⟩
    have hDv := relax_eq hv hrf HRK.out HP1.out
    rw [hDv]
    have bd3 : Below w1.heap.size w1 w3 := HBD2.out.trans (b3.mono HBD2.out.size)
    have cell3 : ∀ i, i ≤ D0 → w3.cell? ⟨pb, i, none⟩ = some (.int .i32 ((p i : Nat) : Int)) := fun i hi => cell_later b3 (HCL.out i hi)
    have HCL3 := hid cell3
    have HBD3 := hid bd3
    have HB3 := hid (HB1.out.1.trans (bd3.mono HB1.out.2))
    have c0 := cell3 0 (Nat.zero_le _)
    have cD := cell3 D0 (Nat.le_refl _)
    rw [HP1.out.first] at c0
    rw [HP1.out.last] at cD
    clear hDv hrf bd3 cell3 b3 hz2 HCL HBD2 HRK cu cv
    go_wp2
    rw [rest5_13]
    conv => arg 2; arg 1; whnf
    have q2 : decide ((D0 : Int) < 0) = false := by simp
    have q3 : ((D0 : Int) + 1 != (D0 : Int) + 1) = false := by simp
    go_wp2
    rw [rest5_14]
    conv => arg 2; arg 1; whnf
    have j0 : (0 : Int) < (D0 : Int) + 1 := by omega
    have j1 : (0 : Int) ≤ (D0 : Int) := by omega
    have j2 : (D0 : Int) < (D0 : Int) + 1 := by omega
    have q4 : ((u : Int) != (u : Int)) = false := by simp
    have q5 : ((v : Int) != (v : Int)) = false := by simp
    go_wp2
    clear c0 cD
    rw [rest5_15]
    conv => arg 2; arg 1; whnf
    go_wp2
    go_loopw [23] (fun i wr => ∃ j : Nat, j ≤ D0 + 1 ∧ i = .int .i64 (j : Int) ∧ Hid (Below w3.heap.size w3 wr)) (fun i _ => D0 + 1 - (intOf i).toNat)
    case atStart => exact ⟨0, Nat.zero_le _, rfl, hid (Below.refl _ _)⟩
    case round =>
      obtain ⟨j, hj, rfl, HW⟩ := hrel
      obtain ⟨w4, rfl⟩ : ∃ w4, w4 = wr := ⟨_, rfl⟩
      by_cases hlt : j < D0 + 1
      · have cj := cell_later HW.out (HCL3.out j (by omega))
        have hpn := HP1.out.inN j (by omega)
        have hok := HP1.out.okAt j (by omega)
        have bd4 : Below w1.heap.size w1 w4 := HBD3.out.trans (HW.out.mono HBD3.out.size)
        obtain ⟨cg, ec, ccx⟩ := (HRC.out.below bd4).slice.2.2 (p j) hpn
        cases ec
        obtain ⟨cg', ec, ccu⟩ := (HRC.out.below bd4).slice.2.2 u hu
        cases ec
        rw [hok] at ccx
        have HBD4 := hid bd4
        obtain ⟨x, hx⟩ : ∃ x, p j = x := ⟨_, rfl⟩
        rw [hx] at cj hpn ccx
        obtain ⟨cz, hcz⟩ : ∃ cz, comp u = cz := ⟨_, rfl⟩
        rw [hcz] at ccx ccu
        have k0 : (0 : Int) ≤ (j : Int) := by omega
        have k1 : (j : Int) < (D0 : Int) + 1 := by omega
        have k2 : (0 : Int) ≤ (x : Int) := by omega
        have k3 : (x : Int) < (n : Int) := by omega
        have r1 : decide ((j : Int) < (D0 : Int) + 1) = true := decide_eq_true (by omega)
        have r2 : decide ((x : Int) < 0) = false := by simp
        have r3 : decide ((n : Int) ≤ (x : Int)) = false := by simp; omega
        have r3' : decide (n ≤ x) = false := by simp; omega
        have wx : IntKind.i64.wrap (x : Int) = (x : Int) := by rw [IntKind.wrap_i64]; omega
        have r4 : ((cz : Int) != (cz : Int)) = false := by simp
        have HX := hid hx
        clear hx hok bd4 hcz
        by_cases hlast : j < D0
        · have cj1 := cell_later HW.out (HCL3.out (j + 1) (by omega))
          have hed := (HP1.out.edge j hlast).1
          rw [HX.out] at hed
          obtain ⟨y, hy⟩ : ∃ y, p (j + 1) = y := ⟨_, rfl⟩
          rw [hy] at cj1 hed
          have k4 : (0 : Int) ≤ (j : Int) + 1 := by omega
          have k5 : (j : Int) + 1 < (D0 : Int) + 1 := by omega
          have r5 : decide ((j : Int) + 1 < (D0 : Int) + 1) = true := decide_eq_true (by omega)
          have HED := hid hed
          clear hed hy
          go_wp2
          go_quiet (fail)
          have bd5 : Below w1.heap.size w1 (w4.drewN nq) := below_drewN HBD4.out nq
          have hz4 := hasEdge_any n nt nk oc tc kc x y m oa ta ka off T tz kz (w4.drewN nq) (HRW1.out.1.below bd5) (HRW1.out.2.1.below bd5) (HRW1.out.2.2.below bd5) HF.out HED.out
          clear bd5
          go_wp2_with fail
          refine hz4.mono ?_
          rintro e2 w5 ⟨rfl, rfl⟩
          clear hz4
          go_wp2
          go_roundw
          case rel => exact ⟨j + 1, by omega, by go_num, hid (below_drewN HW.out _)⟩
          case measure => simp [intOf]; omega
        · obtain rfl : D0 = j := by omega
          have r5 : decide ((D0 : Int) + 1 < (D0 : Int) + 1) = false := decide_eq_false (by omega)
          clear hlast
          go_wp2
          go_quiet (fail)
          go_wp2
          go_roundw
          case rel => exact ⟨D0 + 1, by omega, by go_num, hid (below_drewN HW.out _)⟩
          case measure => simp [intOf]
      · obtain rfl : j = D0 + 1 := by omega
        have r1 : decide ((D0 : Int) + 1 < (D0 : Int) + 1) = false := decide_eq_false (by omega)
        clear hj hlt
        have HBF := hid (HB3.out.trans (HW.out.mono (HB3.out.size)))
        go_wp2
        conv => arg 2; whnf
        go_wp2
        go_ret
        exact ⟨rfl, HBF.out⟩
  · have q1 : ((ku : Int) != (kv : Int)) = true := by simp; omega
    clear h1
    go_wp2
    go_quiet (fail)
    go_wp2
    go_ret
    exact ⟨rfl, below_drewN HB1.out.1 _⟩


end Go.Proofs.Qxb6602859a
