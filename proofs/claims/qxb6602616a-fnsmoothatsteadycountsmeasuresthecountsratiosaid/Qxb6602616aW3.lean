import Derived.Test.Qxb6602616aW2
namespace Go.Proofs.Qxb6602616a
open Go.RowKit
set_option linter.unusedVariables false

theorem bool_tri (a : Bool) : (a || (!a && !a)) = true := by cases a <;> rfl

set_option maxHeartbeats 400000 in
theorem same_any (m : Nat) (w : World) :
    Calls Try.prog 16 #[.float .f64 m, .float .f64 m] w fun e w' => e = .returned (.bool true) ∧ w' = w := by
  by_cases h : FloatKind.f64.format.order m m = some .eq
  · go_enter Try.func16, Try.ntmps16
    go_wp2
    go_ret
    exact ⟨rfl, rfl⟩
  · have h1 : (FloatKind.f64.format.order m m == some .eq) = false := by simpa using h
    have h2 : (FloatKind.f64.format.order m m != some .eq) = true := by simpa using h
    clear h
    go_enter Try.func16, Try.ntmps16
    go_wp2
    go_ret
    exact ⟨rfl, rfl⟩

set_option maxHeartbeats 400000 in
theorem law_neg1 (n d : Int) (v0 wt0 v1 wt1 ms : Nat) (w : World) (h : n < 0) :
    Calls Try.prog 6 #[.int .i64 n, .int .i64 d, .float .f64 v0, .float .f64 wt0, .float .f64 v1, .float .f64 wt1, .float .f64 ms] w fun e w' => e = .returned (.bool true) ∧ Below w.heap.size w w' := by
  go_enter Try.func6, Try.ntmps6
  go_wp2
  go_ret
  exact ⟨rfl, Below.refl _ _⟩

set_option maxHeartbeats 400000 in
theorem law_neg2 (n d : Int) (v0 wt0 v1 wt1 ms : Nat) (w : World) (h : ¬ n < 0) (h2 : d < 0) :
    Calls Try.prog 6 #[.int .i64 n, .int .i64 d, .float .f64 v0, .float .f64 wt0, .float .f64 v1, .float .f64 wt1, .float .f64 ms] w fun e w' => e = .returned (.bool true) ∧ Below w.heap.size w w' := by
  go_enter Try.func6, Try.ntmps6
  go_wp2
  go_ret
  exact ⟨rfl, Below.refl _ _⟩

set_option maxHeartbeats 400000 in
theorem law_wt1 (n d : Int) (v0 wt0 v1 wt1 ms : Nat) (w : World) (h : ¬ n < 0) (h2 : ¬ d < 0)
    (h3 : (FloatKind.f64.format.order wt0 0 == some .gt || FloatKind.f64.format.order wt0 0 == some .eq) = false) :
    Calls Try.prog 6 #[.int .i64 n, .int .i64 d, .float .f64 v0, .float .f64 wt0, .float .f64 v1, .float .f64 wt1, .float .f64 ms] w fun e w' => e = .returned (.bool true) ∧ Below w.heap.size w w' := by
  go_enter Try.func6, Try.ntmps6
  go_wp2
  go_ret
  exact ⟨rfl, Below.refl _ _⟩

set_option maxHeartbeats 400000 in
theorem law_wt2 (n d : Int) (v0 wt0 v1 wt1 ms : Nat) (w : World) (h : ¬ n < 0) (h2 : ¬ d < 0)
    (h3 : (FloatKind.f64.format.order wt0 0 == some .gt || FloatKind.f64.format.order wt0 0 == some .eq) = true)
    (h4 : (FloatKind.f64.format.order wt1 0 == some .gt || FloatKind.f64.format.order wt1 0 == some .eq) = false) :
    Calls Try.prog 6 #[.int .i64 n, .int .i64 d, .float .f64 v0, .float .f64 wt0, .float .f64 v1, .float .f64 wt1, .float .f64 ms] w fun e w' => e = .returned (.bool true) ∧ Below w.heap.size w w' := by
  go_enter Try.func6, Try.ntmps6
  go_wp2
  go_ret
  exact ⟨rfl, Below.refl _ _⟩

set_option maxHeartbeats 400000 in
theorem law_v1 (n d : Int) (v0 wt0 v1 wt1 ms : Nat) (w : World) (h : ¬ n < 0) (h2 : ¬ d < 0)
    (h3 : (FloatKind.f64.format.order wt0 0 == some .gt || FloatKind.f64.format.order wt0 0 == some .eq) = true)
    (h4 : (FloatKind.f64.format.order wt1 0 == some .gt || FloatKind.f64.format.order wt1 0 == some .eq) = true)
    (h5 : (FloatKind.f64.format.order v0 (floatOfInt .f64 n) != some .eq) = true) :
    Calls Try.prog 6 #[.int .i64 n, .int .i64 d, .float .f64 v0, .float .f64 wt0, .float .f64 v1, .float .f64 wt1, .float .f64 ms] w fun e w' => e = .returned (.bool true) ∧ Below w.heap.size w w' := by
  go_enter Try.func6, Try.ntmps6
  go_wp2
  go_ret
  exact ⟨rfl, Below.refl _ _⟩

set_option maxHeartbeats 400000 in
theorem law_v2 (n d : Int) (v0 wt0 v1 wt1 ms : Nat) (w : World) (h : ¬ n < 0) (h2 : ¬ d < 0)
    (h3 : (FloatKind.f64.format.order wt0 0 == some .gt || FloatKind.f64.format.order wt0 0 == some .eq) = true)
    (h4 : (FloatKind.f64.format.order wt1 0 == some .gt || FloatKind.f64.format.order wt1 0 == some .eq) = true)
    (h5 : (FloatKind.f64.format.order v0 (floatOfInt .f64 n) != some .eq) = false)
    (h6 : (FloatKind.f64.format.order v1 (floatOfInt .f64 d) != some .eq) = true) :
    Calls Try.prog 6 #[.int .i64 n, .int .i64 d, .float .f64 v0, .float .f64 wt0, .float .f64 v1, .float .f64 wt1, .float .f64 ms] w fun e w' => e = .returned (.bool true) ∧ Below w.heap.size w w' := by
  go_enter Try.func6, Try.ntmps6
  go_wp2
  go_ret
  exact ⟨rfl, Below.refl _ _⟩

end Go.Proofs.Qxb6602616a
