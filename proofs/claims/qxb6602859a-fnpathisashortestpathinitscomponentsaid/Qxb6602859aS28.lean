import Derived.Test.Qxb6602859aS27
namespace Go.Proofs.Qxb6602859a
open Go.RowKit Kit
set_option linter.unusedVariables false
set_option linter.unusedSimpArgs false

set_option maxHeartbeats 4000000 in
set_option maxRecDepth 100000 in
theorem e7 (real : Int) (n nt nk oc tc kc u v : Nat) (m : Int) (oa ta ka : Option Addr) (off T : Nat → Nat) (tz kz : Nat → Int) (w0 w : World) {x8 x9 x10 x11 x12 x13 x14 x15 x16 x17 x18 x19 x20 x21 x22 x23 x24 x25 x26 x27 x28 x29 x30 x31 x32 x33 x34 x35 x36 x37 x38 x39 x40 x41 x42 x43 x44 x45 x46 x47 x48 x49 x50 x51 x52 x53 x54 x55 x56 x57 x58 x59 x60 x61 x62 x63 x64 x65 x66 x67 x68 x69 x70 x71 x72 x73 x74 x75 x76 x77 x78 x79 x80 x81 x82 x83 x84 x85 x86 x87 x88 x89 x90 x91 x92 x93 x94 x95 x96 x97 x98 x99 x100 x101 x102 x103 x104 x105 x106 x107 x108 x109 x110 x111 x112 x113 x114 x115 x116 x117 x118 x119 x120 x121 x122 x123 x124 x125 x126 x127 x128 x129 x130 x131 x132 x133 x134 x135 x136 x137 x138 x139 x140 x141 x142 x143 x144 x145 x146 x147 x148 x149 x150 x151 x152 x153 x154 x155 x156 x157 x158 x159 x160 x161 x162 x163 x164 x165 x166 x167 x168 x169 x170 x171 x172 x173 x174 x175 x176 x177 x178 x179 x180 x181 x182 x183 x184 x185 x186 x187 x188 x189 x190 x191 x192 x193 x194 x195 x196 x197 x198 x199 x200 x201 x202 x203 x204 x205 x206 x207 x208 : Value}
    (rO : Row w 21 (.slice oa (n + 1) oc) (n + 1) (fun i => .int .i32 ((off i : Nat) : Int))) (rT : Row w 21 (.slice ta nt tc) nt (fun i => .int .i32 (tz i))) (rK : ArgS w ka nk kc (fun i => .int .u8 (kz i))) (hF : GF n nt nk off tz T) (hn4 : n ≤ 4096) (hnt4 : nt ≤ 4096) (hu : u < n) (hv : v < n)
    (hB : Below w0.heap.size w0 w) (hB0 : w0.heap.size ≤ w.heap.size) :
    Code.wp Try.prog (restF Try.f5 7) (bodyPost Try.prog Try.f5 (PostT w0)) ⟨#[.int .i64 real, .int .i64 (n : Int), .slice oa (n + 1) oc, .slice ta nt tc, .slice ka nk kc, .int .i32 (u : Int), .int .i32 (v : Int), .int .u8 m, x8, x9, x10, x11, x12, x13, x14, x15, x16, x17, x18, x19, x20, x21, x22, x23, x24, x25, x26, x27, x28, x29, x30, x31, x32, x33, x34, x35, x36, x37, x38, x39, x40, x41, x42, x43, x44, x45, x46, x47, x48, x49, x50, x51, x52, x53, x54, x55, x56, x57, x58, x59, x60, x61, x62, x63, x64, x65, x66, x67, x68, x69, x70, x71, x72, x73, x74, x75, x76, x77, x78, x79, x80, x81, x82, x83, x84, x85, x86, x87, x88, x89, x90, x91, x92, x93, x94, x95, x96, x97, x98, x99, x100, x101, x102, x103, x104, x105, x106, x107, x108, x109, x110, x111, x112, x113, x114, x115, x116, x117, x118, x119, x120, x121, x122, x123, x124, x125, x126, x127, x128, x129, x130, x131, x132, x133, x134, x135, x136, x137, x138, x139, x140, x141, x142, x143, x144, x145, x146, x147, x148, x149, x150, x151, x152, x153, x154, x155, x156, x157, x158, x159, x160, x161, x162, x163, x164, x165, x166, x167, x168, x169, x170, x171, x172, x173, x174, x175, x176, x177, x178, x179, x180, x181, x182, x183, x184, x185, x186, x187, x188, x189, x190, x191, x192, x193, x194, x195, x196, x197, x198, x199, x200, x201, x202, x203, x204, x205, x206, x207, x208], []⟩ w := by
  have HB := hid (And.intro hB hB0)
  have hn1 := hF.small
  have hn2 := hF.nt
  have hn3 := hF.nk
  clear hB hB0
  rcases rK with ⟨rfl, rfl, rfl⟩ | ⟨x, rfl, hsrc⟩
  · have HR := hid (And.intro rO rT)
    clear rO rT
    have hneq := fun u => run_neq_slice_nil_any (P := Try.prog) u 23 5 none 0 0 0 0 Try.underlying23
    rw [rest5_7]
    conv => arg 2; arg 1; whnf
    go_wp2
    exact e8 real n nt 0 oc tc 0 u v m oa ta none off T tz kz w0 w HR.out.1 HR.out.2 (row_noneS _ _ _) hF hn4 hnt4 hu hv HB.out.1 HB.out.2
  · have HR := hid (And.intro rO rT)
    clear rO rT
    have mk := fun z => run_make_row' (P := Try.prog) 23 5 (.int .u8 0) 1 Try.underlying23 Try.info5 rfl .i64 .i64 nk (by omega) (by omega) z
    have cp := run_clone_copy (P := Try.prog) w 23 5 3 x nk kc (.int .u8 0) (fun i => .int .u8 (kz i)) Try.underlying23 (by kernel_rfl) hsrc (fun _ _ => rfl)
    have hneq := fun u => run_neq_slice_nil_any (P := Try.prog) u 23 5 (some x) nk kc 0 0 Try.underlying23
    clear hsrc
    rw [rest5_7]
    conv => arg 2; arg 1; whnf
    go_wp2
    skip
    exact e8 real n nt nk oc tc nk u v m oa ta (some ⟨w.heap.size, 0, none⟩) off T tz kz w0 _ (HR.out.1.below (below_alloc0 _ _)) (HR.out.2.below (below_alloc0 _ _)) (row_copyS _ _ nk _ (by omega)) hF hn4 hnt4 hu hv (HB.out.1.alloc HB.out.2 _) (size_upS HB.out.2)

set_option maxHeartbeats 4000000 in
set_option maxRecDepth 100000 in
theorem e6 (real : Int) (n nt nk oc tc kc u v : Nat) (m : Int) (oa ta ka : Option Addr) (off T : Nat → Nat) (tz kz : Nat → Int) (w0 w : World) {x8 x9 x10 x11 x12 x13 x14 x15 x16 x17 x18 x19 x20 x21 x22 x23 x24 x25 x26 x27 x28 x29 x30 x31 x32 x33 x34 x35 x36 x37 x38 x39 x40 x41 x42 x43 x44 x45 x46 x47 x48 x49 x50 x51 x52 x53 x54 x55 x56 x57 x58 x59 x60 x61 x62 x63 x64 x65 x66 x67 x68 x69 x70 x71 x72 x73 x74 x75 x76 x77 x78 x79 x80 x81 x82 x83 x84 x85 x86 x87 x88 x89 x90 x91 x92 x93 x94 x95 x96 x97 x98 x99 x100 x101 x102 x103 x104 x105 x106 x107 x108 x109 x110 x111 x112 x113 x114 x115 x116 x117 x118 x119 x120 x121 x122 x123 x124 x125 x126 x127 x128 x129 x130 x131 x132 x133 x134 x135 x136 x137 x138 x139 x140 x141 x142 x143 x144 x145 x146 x147 x148 x149 x150 x151 x152 x153 x154 x155 x156 x157 x158 x159 x160 x161 x162 x163 x164 x165 x166 x167 x168 x169 x170 x171 x172 x173 x174 x175 x176 x177 x178 x179 x180 x181 x182 x183 x184 x185 x186 x187 x188 x189 x190 x191 x192 x193 x194 x195 x196 x197 x198 x199 x200 x201 x202 x203 x204 x205 x206 x207 x208 : Value}
    (rO : Row w 21 (.slice oa (n + 1) oc) (n + 1) (fun i => .int .i32 ((off i : Nat) : Int))) (rT : ArgS w ta nt tc (fun i => .int .i32 (tz i))) (rK : ArgS w ka nk kc (fun i => .int .u8 (kz i))) (hF : GF n nt nk off tz T) (hn4 : n ≤ 4096) (hnt4 : nt ≤ 4096) (hu : u < n) (hv : v < n)
    (hB : Below w0.heap.size w0 w) (hB0 : w0.heap.size ≤ w.heap.size) :
    Code.wp Try.prog (restF Try.f5 6) (bodyPost Try.prog Try.f5 (PostT w0)) ⟨#[.int .i64 real, .int .i64 (n : Int), .slice oa (n + 1) oc, .slice ta nt tc, .slice ka nk kc, .int .i32 (u : Int), .int .i32 (v : Int), .int .u8 m, x8, x9, x10, x11, x12, x13, x14, x15, x16, x17, x18, x19, x20, x21, x22, x23, x24, x25, x26, x27, x28, x29, x30, x31, x32, x33, x34, x35, x36, x37, x38, x39, x40, x41, x42, x43, x44, x45, x46, x47, x48, x49, x50, x51, x52, x53, x54, x55, x56, x57, x58, x59, x60, x61, x62, x63, x64, x65, x66, x67, x68, x69, x70, x71, x72, x73, x74, x75, x76, x77, x78, x79, x80, x81, x82, x83, x84, x85, x86, x87, x88, x89, x90, x91, x92, x93, x94, x95, x96, x97, x98, x99, x100, x101, x102, x103, x104, x105, x106, x107, x108, x109, x110, x111, x112, x113, x114, x115, x116, x117, x118, x119, x120, x121, x122, x123, x124, x125, x126, x127, x128, x129, x130, x131, x132, x133, x134, x135, x136, x137, x138, x139, x140, x141, x142, x143, x144, x145, x146, x147, x148, x149, x150, x151, x152, x153, x154, x155, x156, x157, x158, x159, x160, x161, x162, x163, x164, x165, x166, x167, x168, x169, x170, x171, x172, x173, x174, x175, x176, x177, x178, x179, x180, x181, x182, x183, x184, x185, x186, x187, x188, x189, x190, x191, x192, x193, x194, x195, x196, x197, x198, x199, x200, x201, x202, x203, x204, x205, x206, x207, x208], []⟩ w := by
  have HB := hid (And.intro hB hB0)
  have hn1 := hF.small
  have hn2 := hF.nt
  have hn3 := hF.nk
  clear hB hB0
  rcases rT with ⟨rfl, rfl, rfl⟩ | ⟨x, rfl, hsrc⟩
  · have HR := hid (And.intro rO rK)
    clear rO rK
    have hneq := fun u => run_neq_slice_nil_any (P := Try.prog) u 22 21 none 0 0 0 0 Try.underlying22
    rw [rest5_6]
    conv => arg 2; arg 1; whnf
    go_wp2
    exact e7 real n 0 nk oc 0 kc u v m oa none ka off T tz kz w0 w HR.out.1 (row_noneS _ _ _) HR.out.2 hF hn4 hnt4 hu hv HB.out.1 HB.out.2
  · have HR := hid (And.intro rO rK)
    clear rO rK
    have mk := fun z => run_make_row' (P := Try.prog) 22 21 (.int .i32 0) 4 Try.underlying22 Try.info21 rfl .i64 .i64 nt (by omega) (by omega) z
    have cp := run_clone_copy (P := Try.prog) w 22 21 3 x nt tc (.int .i32 0) (fun i => .int .i32 (tz i)) Try.underlying22 (by kernel_rfl) hsrc (fun _ _ => rfl)
    have hneq := fun u => run_neq_slice_nil_any (P := Try.prog) u 22 21 (some x) nt tc 0 0 Try.underlying22
    clear hsrc
    rw [rest5_6]
    conv => arg 2; arg 1; whnf
    go_wp2
    skip
    exact e7 real n nt nk oc nt kc u v m oa (some ⟨w.heap.size, 0, none⟩) ka off T tz kz w0 _ (HR.out.1.below (below_alloc0 _ _)) (row_copyS _ _ nt _ (by omega)) (HR.out.2.below (below_alloc0 _ _)) hF hn4 hnt4 hu hv (HB.out.1.alloc HB.out.2 _) (size_upS HB.out.2)

set_option maxHeartbeats 4000000 in
set_option maxRecDepth 100000 in
theorem e5 (real : Int) (n nt nk oc tc kc u v : Nat) (m : Int) (oa ta ka : Option Addr) (off T : Nat → Nat) (tz kz : Nat → Int) (w0 w : World) {x8 x9 x10 x11 x12 x13 x14 x15 x16 x17 x18 x19 x20 x21 x22 x23 x24 x25 x26 x27 x28 x29 x30 x31 x32 x33 x34 x35 x36 x37 x38 x39 x40 x41 x42 x43 x44 x45 x46 x47 x48 x49 x50 x51 x52 x53 x54 x55 x56 x57 x58 x59 x60 x61 x62 x63 x64 x65 x66 x67 x68 x69 x70 x71 x72 x73 x74 x75 x76 x77 x78 x79 x80 x81 x82 x83 x84 x85 x86 x87 x88 x89 x90 x91 x92 x93 x94 x95 x96 x97 x98 x99 x100 x101 x102 x103 x104 x105 x106 x107 x108 x109 x110 x111 x112 x113 x114 x115 x116 x117 x118 x119 x120 x121 x122 x123 x124 x125 x126 x127 x128 x129 x130 x131 x132 x133 x134 x135 x136 x137 x138 x139 x140 x141 x142 x143 x144 x145 x146 x147 x148 x149 x150 x151 x152 x153 x154 x155 x156 x157 x158 x159 x160 x161 x162 x163 x164 x165 x166 x167 x168 x169 x170 x171 x172 x173 x174 x175 x176 x177 x178 x179 x180 x181 x182 x183 x184 x185 x186 x187 x188 x189 x190 x191 x192 x193 x194 x195 x196 x197 x198 x199 x200 x201 x202 x203 x204 x205 x206 x207 x208 : Value}
    (rO : ArgS w oa (n + 1) oc (fun i => .int .i32 ((off i : Nat) : Int))) (rT : ArgS w ta nt tc (fun i => .int .i32 (tz i))) (rK : ArgS w ka nk kc (fun i => .int .u8 (kz i))) (hF : GF n nt nk off tz T) (hn4 : n ≤ 4096) (hnt4 : nt ≤ 4096) (hu : u < n) (hv : v < n)
    (hB : Below w0.heap.size w0 w) (hB0 : w0.heap.size ≤ w.heap.size) :
    Code.wp Try.prog (restF Try.f5 5) (bodyPost Try.prog Try.f5 (PostT w0)) ⟨#[.int .i64 real, .int .i64 (n : Int), .slice oa (n + 1) oc, .slice ta nt tc, .slice ka nk kc, .int .i32 (u : Int), .int .i32 (v : Int), .int .u8 m, x8, x9, x10, x11, x12, x13, x14, x15, x16, x17, x18, x19, x20, x21, x22, x23, x24, x25, x26, x27, x28, x29, x30, x31, x32, x33, x34, x35, x36, x37, x38, x39, x40, x41, x42, x43, x44, x45, x46, x47, x48, x49, x50, x51, x52, x53, x54, x55, x56, x57, x58, x59, x60, x61, x62, x63, x64, x65, x66, x67, x68, x69, x70, x71, x72, x73, x74, x75, x76, x77, x78, x79, x80, x81, x82, x83, x84, x85, x86, x87, x88, x89, x90, x91, x92, x93, x94, x95, x96, x97, x98, x99, x100, x101, x102, x103, x104, x105, x106, x107, x108, x109, x110, x111, x112, x113, x114, x115, x116, x117, x118, x119, x120, x121, x122, x123, x124, x125, x126, x127, x128, x129, x130, x131, x132, x133, x134, x135, x136, x137, x138, x139, x140, x141, x142, x143, x144, x145, x146, x147, x148, x149, x150, x151, x152, x153, x154, x155, x156, x157, x158, x159, x160, x161, x162, x163, x164, x165, x166, x167, x168, x169, x170, x171, x172, x173, x174, x175, x176, x177, x178, x179, x180, x181, x182, x183, x184, x185, x186, x187, x188, x189, x190, x191, x192, x193, x194, x195, x196, x197, x198, x199, x200, x201, x202, x203, x204, x205, x206, x207, x208], []⟩ w := by
  have HB := hid (And.intro hB hB0)
  have hn1 := hF.small
  have hn2 := hF.nt
  have hn3 := hF.nk
  clear hB hB0
  rcases rO with ⟨_, h0, _⟩ | ⟨x, rfl, hsrc⟩
  · omega
  · have HR := hid (And.intro rT rK)
    clear rT rK
    have mk := fun z => run_make_row' (P := Try.prog) 22 21 (.int .i32 0) 4 Try.underlying22 Try.info21 rfl .i64 .i64 (n + 1 : Nat) (by omega) (by omega) z
    have cp := run_clone_copy (P := Try.prog) w 22 21 3 x (n + 1) oc (.int .i32 0) (fun i => .int .i32 ((off i : Nat) : Int)) Try.underlying22 (by kernel_rfl) hsrc (fun _ _ => rfl)
    have hneq := fun u => run_neq_slice_nil_any (P := Try.prog) u 22 21 (some x) (n + 1) oc 0 0 Try.underlying22
    clear hsrc
    have hcast : (((n + 1 : Nat)) : Int) = (n : Int) + 1 := by omega
    rw [hcast] at mk
    clear hcast
    obtain ⟨CA, hCA⟩ : ∃ CA : Array Value, CA = ((List.range (n + 1)).map (fun i => Value.int .i32 ((off i : Nat) : Int))).toArray := ⟨_, rfl⟩
    rw [← hCA] at cp
    have HCA := hid hCA
    clear hCA
    rw [rest5_5]
    conv => arg 2; arg 1; whnf
    go_wp2
    obtain rfl := HCA.out
    exact e6 real n nt nk (n + 1) tc kc u v m (some ⟨w.heap.size, 0, none⟩) ta ka off T tz kz w0 _ (row_copyS _ _ (n + 1) _ (by omega)) (HR.out.1.below (below_alloc0 _ _)) (HR.out.2.below (below_alloc0 _ _)) hF hn4 hnt4 hu hv (HB.out.1.alloc HB.out.2 _) (size_upS HB.out.2)


end Go.Proofs.Qxb6602859a
