import Derived.Test.Qxb6602616aW3
namespace Go.Proofs.Qxb6602616a
open Go.RowKit
set_option linter.unusedVariables false

set_option maxHeartbeats 1000000 in
theorem law_no (n d : Int) (v0 wt0 v1 wt1 ms F D A k p0 fw0 w10 p1 fw1 w11 : Nat) (w : World) (h : ¬ n < 0) (h2 : ¬ d < 0)
    (hF : floatOfInt .f64 n = F) (hD : floatOfInt .f64 d = D)
    (a1 : (FloatKind.f64.format.order wt0 0 == some .gt || FloatKind.f64.format.order wt0 0 == some .eq) = true)
    (a2 : (FloatKind.f64.format.order wt1 0 == some .gt || FloatKind.f64.format.order wt1 0 == some .eq) = true)
    (a3 : (FloatKind.f64.format.order v0 F != some .eq) = false)
    (a4 : (FloatKind.f64.format.order v1 D != some .eq) = false)
    (hA : Ieee.double.add 4652007308841189376 F = some A) (hk : Ieee.double.div 4652007308841189376 A = some k)
    (h1 : Ieee.double.mul k wt0 = some p0) (h2' : Ieee.double.add p0 4607182418800017408 = some fw0)
    (h3 : Ieee.double.sub F v0 = some 0) (h4 : Ieee.double.div 0 fw0 = some 0) (h5 : Ieee.double.add v0 0 = some F)
    (g1 : Ieee.double.mul k wt1 = some p1) (g2 : Ieee.double.add p1 4607182418800017408 = some fw1)
    (g3 : Ieee.double.sub D v1 = some 0) (g4 : Ieee.double.div 0 fw1 = some 0) (g5 : Ieee.double.add v1 0 = some D)
    (h6 : Ieee.double.add wt0 4607182418800017408 = some w10) (g6 : Ieee.double.add wt1 4607182418800017408 = some w11)
    (b1 : (FloatKind.f64.format.order F F != some .eq) = false) (b2 : (FloatKind.f64.format.order D D != some .eq) = false)
    (b3 : (FloatKind.f64.format.order fw0 4607182418800017408 == some .gt || FloatKind.f64.format.order fw0 4607182418800017408 == some .eq) = true)
    (b4 : (FloatKind.f64.format.order fw0 w10 == some .lt || FloatKind.f64.format.order fw0 w10 == some .eq) = true)
    (b5 : (FloatKind.f64.format.order fw1 4607182418800017408 == some .gt || FloatKind.f64.format.order fw1 4607182418800017408 == some .eq) = true)
    (b6 : (FloatKind.f64.format.order fw1 w11 == some .lt || FloatKind.f64.format.order fw1 w11 == some .eq) = true)
    (hn : decide (0 < n) = false) (hd : decide (0 < d) = false) (hz : (n == 0) = true)
    (b7 : (FloatKind.f64.format.order fw0 w10 != some .eq) = false) (b8 : (FloatKind.f64.format.order fw1 w11 != some .eq) = false) :
    Calls Try.prog 6 #[.int .i64 n, .int .i64 d, .float .f64 v0, .float .f64 wt0, .float .f64 v1, .float .f64 wt1, .float .f64 ms] w fun e w' => e = .returned (.bool true) ∧ Below w.heap.size w w' := by
  have Z := hid (fun w => zz_no n d v0 wt0 v1 wt1 ms F D A k p0 fw0 p1 fw1 w hF hD hA hk h1 h2' h3 h4 h5 g1 g2 g3 g4 g5 hn hd)
  have r1 := fun u => run_float_arith (P := Try.prog) u .add 22 .f64 wt0 4607182418800017408 w10 h6
  have r2 := fun u => run_float_arith (P := Try.prog) u .add 22 .f64 wt1 4607182418800017408 w11 g6
  clear hA hk h1 h2' h3 h4 h5 g1 g2 g3 g4 g5 h6 g6
  go_enter Try.func6, Try.ntmps6
  go_wp2_with fail
  refine (Z.out _).mono ?_
  rintro e w' ⟨rfl, hb⟩
  have HB := hid hb
  clear hb
  go_wp2_with fail
  refine (same_any ms _).mono ?_
  rintro e w2 ⟨rfl, rfl⟩
  go_wp2
  go_ret
  exact ⟨rfl, HB.out⟩

set_option maxHeartbeats 1000000 in
theorem law_first (n d : Int) (v0 wt0 v1 wt1 ms F D A k p0 fw0 w10 p1 fw1 w11 r : Nat) (w : World) (h : ¬ n < 0) (h2 : ¬ d < 0)
    (hF : floatOfInt .f64 n = F) (hD : floatOfInt .f64 d = D)
    (a1 : (FloatKind.f64.format.order wt0 0 == some .gt || FloatKind.f64.format.order wt0 0 == some .eq) = true)
    (a2 : (FloatKind.f64.format.order wt1 0 == some .gt || FloatKind.f64.format.order wt1 0 == some .eq) = true)
    (a3 : (FloatKind.f64.format.order v0 F != some .eq) = false)
    (a4 : (FloatKind.f64.format.order v1 D != some .eq) = false)
    (hA : Ieee.double.add 4652007308841189376 F = some A) (hk : Ieee.double.div 4652007308841189376 A = some k)
    (h1 : Ieee.double.mul k wt0 = some p0) (h2' : Ieee.double.add p0 4607182418800017408 = some fw0)
    (h3 : Ieee.double.sub F v0 = some 0) (h4 : Ieee.double.div 0 fw0 = some 0) (h5 : Ieee.double.add v0 0 = some F)
    (g1 : Ieee.double.mul k wt1 = some p1) (g2 : Ieee.double.add p1 4607182418800017408 = some fw1)
    (g3 : Ieee.double.sub D v1 = some 0) (g4 : Ieee.double.div 0 fw1 = some 0) (g5 : Ieee.double.add v1 0 = some D)
    (h6 : Ieee.double.add wt0 4607182418800017408 = some w10) (g6 : Ieee.double.add wt1 4607182418800017408 = some w11)
    (b1 : (FloatKind.f64.format.order F F != some .eq) = false) (b2 : (FloatKind.f64.format.order D D != some .eq) = false)
    (b3 : (FloatKind.f64.format.order fw0 4607182418800017408 == some .gt || FloatKind.f64.format.order fw0 4607182418800017408 == some .eq) = true)
    (b4 : (FloatKind.f64.format.order fw0 w10 == some .lt || FloatKind.f64.format.order fw0 w10 == some .eq) = true)
    (b5 : (FloatKind.f64.format.order fw1 4607182418800017408 == some .gt || FloatKind.f64.format.order fw1 4607182418800017408 == some .eq) = true)
    (b6 : (FloatKind.f64.format.order fw1 w11 == some .lt || FloatKind.f64.format.order fw1 w11 == some .eq) = true)
    (hr : Ieee.double.div D F = some r) (hn : decide (0 < n) = true) (hz : (n == 0) = false)
    (b7 : (FloatKind.f64.format.order r r == some .eq) = true) :
    Calls Try.prog 6 #[.int .i64 n, .int .i64 d, .float .f64 v0, .float .f64 wt0, .float .f64 v1, .float .f64 wt1, .float .f64 ms] w fun e w' => e = .returned (.bool true) ∧ Below w.heap.size w w' := by
  have Z := hid (fun w => zz_first n d v0 wt0 v1 wt1 ms F D A k p0 fw0 p1 fw1 r w hF hD hA hk h1 h2' h3 h4 h5 g1 g2 g3 g4 g5 hr hn)
  have r1 := fun u => run_float_arith (P := Try.prog) u .add 22 .f64 wt0 4607182418800017408 w10 h6
  have r2 := fun u => run_float_arith (P := Try.prog) u .add 22 .f64 wt1 4607182418800017408 w11 g6
  have r3 := fun u => run_float_arith (P := Try.prog) u .quo 22 .f64 D F r hr
  clear hr
  clear hA hk h1 h2' h3 h4 h5 g1 g2 g3 g4 g5 h6 g6
  go_enter Try.func6, Try.ntmps6
  go_wp2_with fail
  refine (Z.out _).mono ?_
  rintro e w' ⟨rfl, hb⟩
  have HB := hid hb
  clear hb
  go_wp2_with fail
  go_ret
  exact ⟨rfl, HB.out⟩

set_option maxHeartbeats 1000000 in
theorem law_dup (n d : Int) (v0 wt0 v1 wt1 ms F D A k p0 fw0 w10 p1 fw1 w11 r : Nat) (w : World) (h : ¬ n < 0) (h2 : ¬ d < 0)
    (hF : floatOfInt .f64 n = F) (hD : floatOfInt .f64 d = D)
    (a1 : (FloatKind.f64.format.order wt0 0 == some .gt || FloatKind.f64.format.order wt0 0 == some .eq) = true)
    (a2 : (FloatKind.f64.format.order wt1 0 == some .gt || FloatKind.f64.format.order wt1 0 == some .eq) = true)
    (a3 : (FloatKind.f64.format.order v0 F != some .eq) = false)
    (a4 : (FloatKind.f64.format.order v1 D != some .eq) = false)
    (hA : Ieee.double.add 4652007308841189376 F = some A) (hk : Ieee.double.div 4652007308841189376 A = some k)
    (h1 : Ieee.double.mul k wt0 = some p0) (h2' : Ieee.double.add p0 4607182418800017408 = some fw0)
    (h3 : Ieee.double.sub F v0 = some 0) (h4 : Ieee.double.div 0 fw0 = some 0) (h5 : Ieee.double.add v0 0 = some F)
    (g1 : Ieee.double.mul k wt1 = some p1) (g2 : Ieee.double.add p1 4607182418800017408 = some fw1)
    (g3 : Ieee.double.sub D v1 = some 0) (g4 : Ieee.double.div 0 fw1 = some 0) (g5 : Ieee.double.add v1 0 = some D)
    (h6 : Ieee.double.add wt0 4607182418800017408 = some w10) (g6 : Ieee.double.add wt1 4607182418800017408 = some w11)
    (b1 : (FloatKind.f64.format.order F F != some .eq) = false) (b2 : (FloatKind.f64.format.order D D != some .eq) = false)
    (b3 : (FloatKind.f64.format.order fw0 4607182418800017408 == some .gt || FloatKind.f64.format.order fw0 4607182418800017408 == some .eq) = true)
    (b4 : (FloatKind.f64.format.order fw0 w10 == some .lt || FloatKind.f64.format.order fw0 w10 == some .eq) = true)
    (b5 : (FloatKind.f64.format.order fw1 4607182418800017408 == some .gt || FloatKind.f64.format.order fw1 4607182418800017408 == some .eq) = true)
    (b6 : (FloatKind.f64.format.order fw1 w11 == some .lt || FloatKind.f64.format.order fw1 w11 == some .eq) = true)
    (hr : Ieee.double.div D F = some r) (hn : decide (0 < n) = false) (hd : decide (0 < d) = true) (hz : (n == 0) = true)
    (b7 : (FloatKind.f64.format.order fw0 w10 != some .eq) = false) (b8 : (FloatKind.f64.format.order fw1 w11 != some .eq) = false)
    (b9 : (FloatKind.f64.format.order r 9218868437227405311 == some .gt) = true) :
    Calls Try.prog 6 #[.int .i64 n, .int .i64 d, .float .f64 v0, .float .f64 wt0, .float .f64 v1, .float .f64 wt1, .float .f64 ms] w fun e w' => e = .returned (.bool true) ∧ Below w.heap.size w w' := by
  have Z := hid (fun w => zz_dup n d v0 wt0 v1 wt1 ms F D A k p0 fw0 p1 fw1 r w hF hD hA hk h1 h2' h3 h4 h5 g1 g2 g3 g4 g5 hr hn hd)
  have r1 := fun u => run_float_arith (P := Try.prog) u .add 22 .f64 wt0 4607182418800017408 w10 h6
  have r2 := fun u => run_float_arith (P := Try.prog) u .add 22 .f64 wt1 4607182418800017408 w11 g6
  clear hr
  clear hA hk h1 h2' h3 h4 h5 g1 g2 g3 g4 g5 h6 g6
  go_enter Try.func6, Try.ntmps6
  go_wp2_with fail
  refine (Z.out _).mono ?_
  rintro e w' ⟨rfl, hb⟩
  have HB := hid hb
  clear hb
  go_wp2_with fail
  go_ret
  exact ⟨rfl, HB.out⟩

end Go.Proofs.Qxb6602616a
