import Derived.Test.Qxb6602616aW1
namespace Go.Proofs.Qxb6602616a
open Go.RowKit
set_option linter.unusedVariables false
attribute [local go_sem] run_store_float

set_option maxHeartbeats 1000000 in
theorem zz_no (n d : Int) (v0 wt0 v1 wt1 ms F D A k p0 fw0 p1 fw1 : Nat) (w : World)
    (hF : floatOfInt .f64 n = F) (hD : floatOfInt .f64 d = D)
    (hA : Ieee.double.add 4652007308841189376 F = some A) (hk : Ieee.double.div 4652007308841189376 A = some k)
    (h1 : Ieee.double.mul k wt0 = some p0) (h2 : Ieee.double.add p0 4607182418800017408 = some fw0)
    (h3 : Ieee.double.sub F v0 = some 0) (h4 : Ieee.double.div 0 fw0 = some 0) (h5 : Ieee.double.add v0 0 = some F)
    (g1 : Ieee.double.mul k wt1 = some p1) (g2 : Ieee.double.add p1 4607182418800017408 = some fw1)
    (g3 : Ieee.double.sub D v1 = some 0) (g4 : Ieee.double.div 0 fw1 = some 0) (g5 : Ieee.double.add v1 0 = some D)
    (hn : decide (0 < n) = false) (hd : decide (0 < d) = false) :
    Calls Try.prog 15 #[.int .i64 n, .int .i64 d, .float .f64 v0, .float .f64 wt0, .float .f64 v1, .float .f64 wt1, .float .f64 ms] w fun e w' => e = .returned (.tuple #[.bool false, .int .i64 0, .int .i64 0, .float .f64 F, .float .f64 fw0, .float .f64 D, .float .f64 fw1, .float .f64 ms]) ∧ Below w.heap.size w w' := by
  have H := fun b w c0 c1 c2 c3 c4 c5 c6 f0 f1 f2 f3 f4 f5 f6 => smooth_no b n d v0 wt0 v1 wt1 ms F D A k p0 fw0 p1 fw1 w c0 c1 c2 c3 c4 c5 c6 f0 f1 f2 f3 f4 f5 f6 hF hD hA hk h1 h2 h3 h4 h5 g1 g2 g3 g4 g5 hn hd
  have HH := hid H
  clear H h1 h2 h3 h4 h5 g1 g2 g3 g4 g5 hA hk hF hD hn hd
  go_enter Try.func15, Try.ntmps15
  go_wp2_with fail
  refine (HH.out _ _ ?_ ?_ ?_ ?_ ?_ ?_ ?_ ?_ ?_ ?_ ?_ ?_ ?_ ?_).mono ?_
  iterate 14 (go_simp)
  rintro e w' ⟨rfl, rfl⟩
  go_wp2
  go_quiet (fail)
  go_wp2
  exact bodyPost_ret (v := .tuple #[.bool false, .int .i64 0, .int .i64 0, .float .f64 F, .float .f64 fw0, .float .f64 D, .float .f64 fw1, .float .f64 ms]) (by simp [results, Try.results15, go_sem]) rfl ⟨rfl, below_drewN ((Below.refl _ _).alloc (Nat.le_refl _) _).drew.drew.drew.drew _⟩

set_option maxHeartbeats 1000000 in
theorem zz_first (n d : Int) (v0 wt0 v1 wt1 ms F D A k p0 fw0 p1 fw1 r : Nat) (w : World)
    (hF : floatOfInt .f64 n = F) (hD : floatOfInt .f64 d = D)
    (hA : Ieee.double.add 4652007308841189376 F = some A) (hk : Ieee.double.div 4652007308841189376 A = some k)
    (h1 : Ieee.double.mul k wt0 = some p0) (h2 : Ieee.double.add p0 4607182418800017408 = some fw0)
    (h3 : Ieee.double.sub F v0 = some 0) (h4 : Ieee.double.div 0 fw0 = some 0) (h5 : Ieee.double.add v0 0 = some F)
    (g1 : Ieee.double.mul k wt1 = some p1) (g2 : Ieee.double.add p1 4607182418800017408 = some fw1)
    (g3 : Ieee.double.sub D v1 = some 0) (g4 : Ieee.double.div 0 fw1 = some 0) (g5 : Ieee.double.add v1 0 = some D)
    (hr : Ieee.double.div D F = some r) (hn : decide (0 < n) = true) :
    Calls Try.prog 15 #[.int .i64 n, .int .i64 d, .float .f64 v0, .float .f64 wt0, .float .f64 v1, .float .f64 wt1, .float .f64 ms] w fun e w' => e = .returned (.tuple #[.bool true, .int .i64 0, .int .i64 0, .float .f64 F, .float .f64 fw0, .float .f64 D, .float .f64 fw1, .float .f64 r]) ∧ Below w.heap.size w w' := by
  have H := fun b w c0 c1 c2 c3 c4 c5 c6 f0 f1 f2 f3 f4 f5 f6 => smooth_first b n d v0 wt0 v1 wt1 ms F D A k p0 fw0 p1 fw1 r w c0 c1 c2 c3 c4 c5 c6 f0 f1 f2 f3 f4 f5 f6 hF hD hA hk h1 h2 h3 h4 h5 g1 g2 g3 g4 g5 hr hn
  have HH := hid H
  clear H h1 h2 h3 h4 h5 g1 g2 g3 g4 g5 hA hk hF hD hr hn
  go_enter Try.func15, Try.ntmps15
  go_wp2_with fail
  refine (HH.out _ _ ?_ ?_ ?_ ?_ ?_ ?_ ?_ ?_ ?_ ?_ ?_ ?_ ?_ ?_).mono ?_
  iterate 14 (go_simp)
  rintro e w' ⟨rfl, rfl⟩
  go_wp2
  go_quiet (fail)
  go_wp2
  exact bodyPost_ret (v := .tuple #[.bool true, .int .i64 0, .int .i64 0, .float .f64 F, .float .f64 fw0, .float .f64 D, .float .f64 fw1, .float .f64 r]) (by simp [results, Try.results15, go_sem]) rfl ⟨rfl, below_drewN ((Below.refl _ _).alloc (Nat.le_refl _) _).drew.drew.drew.drew.drew _⟩

set_option maxHeartbeats 1000000 in
theorem zz_dup (n d : Int) (v0 wt0 v1 wt1 ms F D A k p0 fw0 p1 fw1 r : Nat) (w : World)
    (hF : floatOfInt .f64 n = F) (hD : floatOfInt .f64 d = D)
    (hA : Ieee.double.add 4652007308841189376 F = some A) (hk : Ieee.double.div 4652007308841189376 A = some k)
    (h1 : Ieee.double.mul k wt0 = some p0) (h2 : Ieee.double.add p0 4607182418800017408 = some fw0)
    (h3 : Ieee.double.sub F v0 = some 0) (h4 : Ieee.double.div 0 fw0 = some 0) (h5 : Ieee.double.add v0 0 = some F)
    (g1 : Ieee.double.mul k wt1 = some p1) (g2 : Ieee.double.add p1 4607182418800017408 = some fw1)
    (g3 : Ieee.double.sub D v1 = some 0) (g4 : Ieee.double.div 0 fw1 = some 0) (g5 : Ieee.double.add v1 0 = some D)
    (hr : Ieee.double.div D F = some r) (hn : decide (0 < n) = false) (hd : decide (0 < d) = true) :
    Calls Try.prog 15 #[.int .i64 n, .int .i64 d, .float .f64 v0, .float .f64 wt0, .float .f64 v1, .float .f64 wt1, .float .f64 ms] w fun e w' => e = .returned (.tuple #[.bool true, .int .i64 0, .int .i64 0, .float .f64 F, .float .f64 fw0, .float .f64 D, .float .f64 fw1, .float .f64 r]) ∧ Below w.heap.size w w' := by
  have H := fun b w c0 c1 c2 c3 c4 c5 c6 f0 f1 f2 f3 f4 f5 f6 => smooth_dup b n d v0 wt0 v1 wt1 ms F D A k p0 fw0 p1 fw1 r w c0 c1 c2 c3 c4 c5 c6 f0 f1 f2 f3 f4 f5 f6 hF hD hA hk h1 h2 h3 h4 h5 g1 g2 g3 g4 g5 hr hn hd
  have HH := hid H
  clear H h1 h2 h3 h4 h5 g1 g2 g3 g4 g5 hA hk hF hD hr hn hd
  go_enter Try.func15, Try.ntmps15
  go_wp2_with fail
  refine (HH.out _ _ ?_ ?_ ?_ ?_ ?_ ?_ ?_ ?_ ?_ ?_ ?_ ?_ ?_ ?_).mono ?_
  iterate 14 (go_simp)
  rintro e w' ⟨rfl, rfl⟩
  go_wp2
  go_quiet (fail)
  go_wp2
  exact bodyPost_ret (v := .tuple #[.bool true, .int .i64 0, .int .i64 0, .float .f64 F, .float .f64 fw0, .float .f64 D, .float .f64 fw1, .float .f64 r]) (by simp [results, Try.results15, go_sem]) rfl ⟨rfl, below_drewN ((Below.refl _ _).alloc (Nat.le_refl _) _).drew.drew.drew.drew.drew _⟩

end Go.Proofs.Qxb6602616a
