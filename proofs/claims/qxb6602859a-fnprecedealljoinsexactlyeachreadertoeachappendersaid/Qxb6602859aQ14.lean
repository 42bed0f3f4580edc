import Derived.Test.Qxb6602859aQ13
namespace Go.Proofs.Qxb6602859a
open Go.RowKit Kit
set_option linter.unusedVariables false
set_option linter.unusedSimpArgs false

set_option maxHeartbeats 8000000 in
set_option maxRecDepth 100000 in
theorem walk7 (w : World) (n M M2 M3 cc fc tc kc nr na rc ac : Nat) (z : Int) (ca fa ta ka ra aa : Option Addr) (C : Nat → Bool) (f t k ri ai : Nat → Int)
   (rC : Arg w ca n cc (fun i => .bool (C i))) (rF : Arg w fa M fc (fun i => .int .i32 (f i))) (rT : Arg w ta M2 tc (fun i => .int .i32 (t i))) (rK : Arg w ka M3 kc (fun i => .int .u8 (k i))) (rR : Arg w ra nr rc (fun i => .int .i64 (ri i))) (rA : Arg w aa na ac (fun i => .int .i64 (ai i))) :
   Calls Try.prog 7 #[.slice ca n cc, .int .i64 z, .slice fa M fc, .slice ta M2 tc, .slice ka M3 kc, .slice ra nr rc, .slice aa na ac] w (Post7 w) := by
  have HB := hid (Below.refl w.heap.size w)
  have HR := hid (And.intro rC (And.intro rF (And.intro rT (And.intro rK (And.intro rR rA)))))
  clear rC rF rT rK rR rA
  go_enter Try.func7, Try.ntmps7
  change Code.wp Try.prog (restF Try.f7 0) _ _ _
  rw [rest7_0]
  conv => arg 2; arg 1; whnf
  go_wp2
  rw [rest7_1]
  conv => arg 2; arg 1; whnf
  go_wp2_with fail
  refine (zz20_any ca fa ta ka ra aa n M M2 M3 nr na cc fc tc kc rc ac z w).mono ?_
  rintro e w' ⟨⟨r, rfl⟩, rfl⟩
  cases r
  · go_wp2
    go_ret
    exact ⟨rfl, HB.out⟩
  go_wp2
  rw [rest7_2]
  conv => arg 2; arg 1; whnf
  by_cases h0 : 4096 < n
  · have q0 : decide ((4096 : Int) < (n : Int)) = true := by simp; omega
    go_wp2
    go_ret
    exact ⟨rfl, HB.out⟩
  have q0 : decide ((4096 : Int) < (n : Int)) = false := by simp; omega
  have p0 : n ≤ 4096 := by omega
  clear h0
  by_cases h1 : 65536 < M
  · have q1 : decide ((65536 : Int) < (M : Int)) = true := by simp; omega
    go_wp2
    go_ret
    exact ⟨rfl, HB.out⟩
  have q1 : decide ((65536 : Int) < (M : Int)) = false := by simp; omega
  have p1 : M ≤ 65536 := by omega
  clear h1
  by_cases h2 : 65536 < M2
  · have q2 : decide ((65536 : Int) < (M2 : Int)) = true := by simp; omega
    go_wp2
    go_ret
    exact ⟨rfl, HB.out⟩
  have q2 : decide ((65536 : Int) < (M2 : Int)) = false := by simp; omega
  have p2 : M2 ≤ 65536 := by omega
  clear h2
  by_cases h3 : 65536 < M3
  · have q3 : decide ((65536 : Int) < (M3 : Int)) = true := by simp; omega
    go_wp2
    go_ret
    exact ⟨rfl, HB.out⟩
  have q3 : decide ((65536 : Int) < (M3 : Int)) = false := by simp; omega
  have p3 : M3 ≤ 65536 := by omega
  clear h3
  by_cases h4 : 4096 < nr
  · have q4 : decide ((4096 : Int) < (nr : Int)) = true := by simp; omega
    go_wp2
    go_ret
    exact ⟨rfl, HB.out⟩
  have q4 : decide ((4096 : Int) < (nr : Int)) = false := by simp; omega
  have p4 : nr ≤ 4096 := by omega
  clear h4
  by_cases h5 : 4096 < na
  · have q5 : decide ((4096 : Int) < (na : Int)) = true := by simp; omega
    go_wp2
    go_ret
    exact ⟨rfl, HB.out⟩
  have q5 : decide ((4096 : Int) < (na : Int)) = false := by simp; omega
  have p5 : na ≤ 4096 := by omega
  clear h5
  go_wp2
  rw [rest7_3]
  conv => arg 2; arg 1; whnf
  by_cases h6 : ¬ M = M2
  · have q6 : ((M : Int) != (M2 : Int)) = true := by simp; omega
    go_wp2
    go_ret
    exact ⟨rfl, HB.out⟩
  obtain rfl : M2 = M := by omega
  clear h6
  by_cases h7 : ¬ M2 = M3
  · have q7 : ((M2 : Int) != (M3 : Int)) = true := by simp; omega
    have q6 : ((M2 : Int) != (M2 : Int)) = false := by simp
    go_wp2
    go_ret
    exact ⟨rfl, HB.out⟩
  obtain rfl : M3 = M2 := by omega
  clear h7
  have q6 : ((M3 : Int) != (M3 : Int)) = false := by simp
  go_wp2
  exact seg4 w' w' n M3 cc fc tc kc nr na rc ac z ca fa ta ka ra aa C f t k ri ai HR.out.1 HR.out.2.1 HR.out.2.2.1 HR.out.2.2.2.1 HR.out.2.2.2.2.1 HR.out.2.2.2.2.2 (by omega) (by omega) (by omega) (by omega) HB.out (Nat.le_refl _)
end Go.Proofs.Qxb6602859a
