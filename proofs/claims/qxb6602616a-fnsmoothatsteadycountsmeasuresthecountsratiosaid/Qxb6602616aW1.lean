import Derived.Test.Qxb6602616aRows
import Derived.Test.Qxb6602616aSm
import Derived.WalkKit
import Derived.WalkSpells
import Derived.WalkLawsBesides
import Derived.Laws.FloatArith
import Derived.BigRegion
import Derived.BigQuiet
import Derived.Deep.QuietTactic
import Derived.Deep.RegionWith
namespace Go.Proofs.Qxb6602616a
open Go.RowKit
set_option linter.unusedVariables false

theorem run_store_float (P : Program) (w : World) (a : Addr) (m : Mode) (k : FloatKind) (n : Nat) : (store a (.float k n) m).run P w = stored P w a (.float k n) m := run_store P w a _ m rfl
attribute [local go_sem] run_store_float
theorem hid {p : Prop} (h : p) : Hid p := h

set_option maxHeartbeats 400000 in
theorem add_any (b off x k v wt p fw z q v' : Nat) (w : World)
    (c0 : w.cell? ⟨b, off, none⟩ = some (.float .f64 v)) (c1 : w.cell? ⟨b, off + 1, none⟩ = some (.float .f64 wt))
    (f0 : w.frozen? ⟨b, off, none⟩ = false) (f1 : w.frozen? ⟨b, off + 1, none⟩ = false)
    (h1 : Ieee.double.mul k wt = some p) (h2 : Ieee.double.add p 4607182418800017408 = some fw)
    (h3 : Ieee.double.sub x v = some z) (h4 : Ieee.double.div z fw = some q) (h5 : Ieee.double.add v q = some v') :
    Calls Try.prog 20 #[.pointer (some ⟨b, off, none⟩), .float .f64 x, .float .f64 k] w fun e w' => e = .returned (.tuple #[]) ∧ w' = ((w.setCell ⟨b, off + 1, none⟩ (.float .f64 fw)).setCell ⟨b, off, none⟩ (.float .f64 v')).drew := by
  have r1 := fun u => run_float_arith (P := Try.prog) u .mul 22 .f64 k wt p h1
  have r2 := fun u => run_float_arith (P := Try.prog) u .add 22 .f64 p 4607182418800017408 fw h2
  have r3 := fun u => run_float_arith (P := Try.prog) u .sub 22 .f64 x v z h3
  have r4 := fun u => run_float_arith (P := Try.prog) u .quo 22 .f64 z fw q h4
  have r5 := fun u => run_float_arith (P := Try.prog) u .add 22 .f64 v q v' h5
  clear h1 h2 h3 h4 h5
  go_enter Try.func20, Try.ntmps20
  go_wp2
  go_region
  go_end0
  exact ⟨rfl, rfl⟩

set_option maxHeartbeats 1000000 in
theorem smooth_no (b : Nat) (n d : Int) (v0 wt0 v1 wt1 ms F D A k p0 fw0 p1 fw1 : Nat) (w : World)
    (c0 : w.cell? ⟨b, 0, none⟩ = some (.int .i64 n)) (c1 : w.cell? ⟨b, 1, none⟩ = some (.int .i64 d))
    (c2 : w.cell? ⟨b, 2, none⟩ = some (.float .f64 v0)) (c3 : w.cell? ⟨b, 3, none⟩ = some (.float .f64 wt0))
    (c4 : w.cell? ⟨b, 4, none⟩ = some (.float .f64 v1)) (c5 : w.cell? ⟨b, 5, none⟩ = some (.float .f64 wt1))
    (c6 : w.cell? ⟨b, 6, none⟩ = some (.float .f64 ms))
    (f0 : w.frozen? ⟨b, 0, none⟩ = false) (f1 : w.frozen? ⟨b, 1, none⟩ = false) (f2 : w.frozen? ⟨b, 2, none⟩ = false) (f3 : w.frozen? ⟨b, 3, none⟩ = false)
    (f4 : w.frozen? ⟨b, 4, none⟩ = false) (f5 : w.frozen? ⟨b, 5, none⟩ = false) (f6 : w.frozen? ⟨b, 6, none⟩ = false)
    (hF : floatOfInt .f64 n = F) (hD : floatOfInt .f64 d = D)
    (hA : Ieee.double.add 4652007308841189376 F = some A) (hk : Ieee.double.div 4652007308841189376 A = some k)
    (h1 : Ieee.double.mul k wt0 = some p0) (h2 : Ieee.double.add p0 4607182418800017408 = some fw0)
    (h3 : Ieee.double.sub F v0 = some 0) (h4 : Ieee.double.div 0 fw0 = some 0) (h5 : Ieee.double.add v0 0 = some F)
    (g1 : Ieee.double.mul k wt1 = some p1) (g2 : Ieee.double.add p1 4607182418800017408 = some fw1)
    (g3 : Ieee.double.sub D v1 = some 0) (g4 : Ieee.double.div 0 fw1 = some 0) (g5 : Ieee.double.add v1 0 = some D)
    (hn : decide (0 < n) = false) (hd : decide (0 < d) = false) :
    Calls Try.prog 19 #[.pointer (some ⟨b, 0, none⟩)] w fun e w' => e = .returned (.bool false) ∧ w' = ((((((w.setCell ⟨b, 3, none⟩ (.float .f64 fw0)).setCell ⟨b, 2, none⟩ (.float .f64 F)).setCell ⟨b, 5, none⟩ (.float .f64 fw1)).setCell ⟨b, 4, none⟩ (.float .f64 D)).setCell ⟨b, 0, none⟩ (.int .i64 0)).setCell ⟨b, 1, none⟩ (.int .i64 0)).drew.drew.drew.drew := by
  have H1 := hid h1; have H2 := hid h2; have H3 := hid h3; have H4 := hid h4; have H5 := hid h5
  have G1 := hid g1; have G2 := hid g2; have G3 := hid g3; have G4 := hid g4; have G5 := hid g5
  have r1 := fun u => run_float_arith (P := Try.prog) u .add 22 .f64 4652007308841189376 F A hA
  have r2 := fun u => run_float_arith (P := Try.prog) u .quo 22 .f64 4652007308841189376 A k hk
  clear h1 h2 h3 h4 h5 g1 g2 g3 g4 g5 hA hk
  go_enter Try.func19, Try.ntmps19
  go_wp2_with fail
  go_region_with (go_at_call 20; refine (add_any b 2 F k v0 wt0 p0 fw0 0 0 F _ ?a0 ?a1 ?b0 ?b1 H1.out H2.out H3.out H4.out H5.out).mono ?_; (case a0 => go_simp); (case a1 => go_simp); (case b0 => go_simp); (case b1 => go_simp); rintro e w' ⟨rfl, rfl⟩)
  go_wp2_with fail
  go_region_with (go_at_call 20; refine (add_any b 4 D k v1 wt1 p1 fw1 0 0 D _ ?a0 ?a1 ?b0 ?b1 G1.out G2.out G3.out G4.out G5.out).mono ?_; (case a0 => go_simp); (case a1 => go_simp); (case b0 => go_simp); (case b1 => go_simp); rintro e w' ⟨rfl, rfl⟩)
  go_wp2
  go_ret
  exact ⟨rfl, rfl⟩

set_option maxHeartbeats 1000000 in
theorem smooth_first (b : Nat) (n d : Int) (v0 wt0 v1 wt1 ms F D A k p0 fw0 p1 fw1 r : Nat) (w : World)
    (c0 : w.cell? ⟨b, 0, none⟩ = some (.int .i64 n)) (c1 : w.cell? ⟨b, 1, none⟩ = some (.int .i64 d))
    (c2 : w.cell? ⟨b, 2, none⟩ = some (.float .f64 v0)) (c3 : w.cell? ⟨b, 3, none⟩ = some (.float .f64 wt0))
    (c4 : w.cell? ⟨b, 4, none⟩ = some (.float .f64 v1)) (c5 : w.cell? ⟨b, 5, none⟩ = some (.float .f64 wt1))
    (c6 : w.cell? ⟨b, 6, none⟩ = some (.float .f64 ms))
    (f0 : w.frozen? ⟨b, 0, none⟩ = false) (f1 : w.frozen? ⟨b, 1, none⟩ = false) (f2 : w.frozen? ⟨b, 2, none⟩ = false) (f3 : w.frozen? ⟨b, 3, none⟩ = false)
    (f4 : w.frozen? ⟨b, 4, none⟩ = false) (f5 : w.frozen? ⟨b, 5, none⟩ = false) (f6 : w.frozen? ⟨b, 6, none⟩ = false)
    (hF : floatOfInt .f64 n = F) (hD : floatOfInt .f64 d = D)
    (hA : Ieee.double.add 4652007308841189376 F = some A) (hk : Ieee.double.div 4652007308841189376 A = some k)
    (h1 : Ieee.double.mul k wt0 = some p0) (h2 : Ieee.double.add p0 4607182418800017408 = some fw0)
    (h3 : Ieee.double.sub F v0 = some 0) (h4 : Ieee.double.div 0 fw0 = some 0) (h5 : Ieee.double.add v0 0 = some F)
    (g1 : Ieee.double.mul k wt1 = some p1) (g2 : Ieee.double.add p1 4607182418800017408 = some fw1)
    (g3 : Ieee.double.sub D v1 = some 0) (g4 : Ieee.double.div 0 fw1 = some 0) (g5 : Ieee.double.add v1 0 = some D)
    (hr : Ieee.double.div D F = some r) (hn : decide (0 < n) = true) :
    Calls Try.prog 19 #[.pointer (some ⟨b, 0, none⟩)] w fun e w' => e = .returned (.bool true) ∧ w' = (((((((w.setCell ⟨b, 3, none⟩ (.float .f64 fw0)).setCell ⟨b, 2, none⟩ (.float .f64 F)).setCell ⟨b, 5, none⟩ (.float .f64 fw1)).setCell ⟨b, 4, none⟩ (.float .f64 D)).setCell ⟨b, 0, none⟩ (.int .i64 0)).setCell ⟨b, 1, none⟩ (.int .i64 0)).setCell ⟨b, 6, none⟩ (.float .f64 r)).drew.drew.drew.drew.drew := by
  have H1 := hid h1; have H2 := hid h2; have H3 := hid h3; have H4 := hid h4; have H5 := hid h5
  have G1 := hid g1; have G2 := hid g2; have G3 := hid g3; have G4 := hid g4; have G5 := hid g5
  have r1 := fun u => run_float_arith (P := Try.prog) u .add 22 .f64 4652007308841189376 F A hA
  have r2 := fun u => run_float_arith (P := Try.prog) u .quo 22 .f64 4652007308841189376 A k hk
  have r3 := fun u => run_float_arith (P := Try.prog) u .quo 22 .f64 D F r hr; clear hr
  clear h1 h2 h3 h4 h5 g1 g2 g3 g4 g5 hA hk
  go_enter Try.func19, Try.ntmps19
  go_wp2_with fail
  go_region_with (go_at_call 20; refine (add_any b 2 F k v0 wt0 p0 fw0 0 0 F _ ?a0 ?a1 ?b0 ?b1 H1.out H2.out H3.out H4.out H5.out).mono ?_; (case a0 => go_simp); (case a1 => go_simp); (case b0 => go_simp); (case b1 => go_simp); rintro e w' ⟨rfl, rfl⟩)
  go_wp2_with fail
  go_region_with (go_at_call 20; refine (add_any b 4 D k v1 wt1 p1 fw1 0 0 D _ ?a0 ?a1 ?b0 ?b1 G1.out G2.out G3.out G4.out G5.out).mono ?_; (case a0 => go_simp); (case a1 => go_simp); (case b0 => go_simp); (case b1 => go_simp); rintro e w' ⟨rfl, rfl⟩)
  go_wp2
  go_region
  go_wp2
  go_ret
  exact ⟨rfl, rfl⟩

set_option maxHeartbeats 1000000 in
theorem smooth_dup (b : Nat) (n d : Int) (v0 wt0 v1 wt1 ms F D A k p0 fw0 p1 fw1 r : Nat) (w : World)
    (c0 : w.cell? ⟨b, 0, none⟩ = some (.int .i64 n)) (c1 : w.cell? ⟨b, 1, none⟩ = some (.int .i64 d))
    (c2 : w.cell? ⟨b, 2, none⟩ = some (.float .f64 v0)) (c3 : w.cell? ⟨b, 3, none⟩ = some (.float .f64 wt0))
    (c4 : w.cell? ⟨b, 4, none⟩ = some (.float .f64 v1)) (c5 : w.cell? ⟨b, 5, none⟩ = some (.float .f64 wt1))
    (c6 : w.cell? ⟨b, 6, none⟩ = some (.float .f64 ms))
    (f0 : w.frozen? ⟨b, 0, none⟩ = false) (f1 : w.frozen? ⟨b, 1, none⟩ = false) (f2 : w.frozen? ⟨b, 2, none⟩ = false) (f3 : w.frozen? ⟨b, 3, none⟩ = false)
    (f4 : w.frozen? ⟨b, 4, none⟩ = false) (f5 : w.frozen? ⟨b, 5, none⟩ = false) (f6 : w.frozen? ⟨b, 6, none⟩ = false)
    (hF : floatOfInt .f64 n = F) (hD : floatOfInt .f64 d = D)
    (hA : Ieee.double.add 4652007308841189376 F = some A) (hk : Ieee.double.div 4652007308841189376 A = some k)
    (h1 : Ieee.double.mul k wt0 = some p0) (h2 : Ieee.double.add p0 4607182418800017408 = some fw0)
    (h3 : Ieee.double.sub F v0 = some 0) (h4 : Ieee.double.div 0 fw0 = some 0) (h5 : Ieee.double.add v0 0 = some F)
    (g1 : Ieee.double.mul k wt1 = some p1) (g2 : Ieee.double.add p1 4607182418800017408 = some fw1)
    (g3 : Ieee.double.sub D v1 = some 0) (g4 : Ieee.double.div 0 fw1 = some 0) (g5 : Ieee.double.add v1 0 = some D)
    (hr : Ieee.double.div D F = some r) (hn : decide (0 < n) = false) (hd : decide (0 < d) = true) :
    Calls Try.prog 19 #[.pointer (some ⟨b, 0, none⟩)] w fun e w' => e = .returned (.bool true) ∧ w' = (((((((w.setCell ⟨b, 3, none⟩ (.float .f64 fw0)).setCell ⟨b, 2, none⟩ (.float .f64 F)).setCell ⟨b, 5, none⟩ (.float .f64 fw1)).setCell ⟨b, 4, none⟩ (.float .f64 D)).setCell ⟨b, 0, none⟩ (.int .i64 0)).setCell ⟨b, 1, none⟩ (.int .i64 0)).setCell ⟨b, 6, none⟩ (.float .f64 r)).drew.drew.drew.drew.drew := by
  have H1 := hid h1; have H2 := hid h2; have H3 := hid h3; have H4 := hid h4; have H5 := hid h5
  have G1 := hid g1; have G2 := hid g2; have G3 := hid g3; have G4 := hid g4; have G5 := hid g5
  have r1 := fun u => run_float_arith (P := Try.prog) u .add 22 .f64 4652007308841189376 F A hA
  have r2 := fun u => run_float_arith (P := Try.prog) u .quo 22 .f64 4652007308841189376 A k hk
  have r3 := fun u => run_float_arith (P := Try.prog) u .quo 22 .f64 D F r hr; clear hr
  clear h1 h2 h3 h4 h5 g1 g2 g3 g4 g5 hA hk
  go_enter Try.func19, Try.ntmps19
  go_wp2_with fail
  go_region_with (go_at_call 20; refine (add_any b 2 F k v0 wt0 p0 fw0 0 0 F _ ?a0 ?a1 ?b0 ?b1 H1.out H2.out H3.out H4.out H5.out).mono ?_; (case a0 => go_simp); (case a1 => go_simp); (case b0 => go_simp); (case b1 => go_simp); rintro e w' ⟨rfl, rfl⟩)
  go_wp2_with fail
  go_region_with (go_at_call 20; refine (add_any b 4 D k v1 wt1 p1 fw1 0 0 D _ ?a0 ?a1 ?b0 ?b1 G1.out G2.out G3.out G4.out G5.out).mono ?_; (case a0 => go_simp); (case a1 => go_simp); (case b0 => go_simp); (case b1 => go_simp); rintro e w' ⟨rfl, rfl⟩)
  go_wp2
  go_region
  go_wp2
  go_ret
  exact ⟨rfl, rfl⟩

end Go.Proofs.Qxb6602616a
