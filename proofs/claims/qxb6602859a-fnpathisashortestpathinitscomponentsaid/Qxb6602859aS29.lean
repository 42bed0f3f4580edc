import Derived.Test.Qxb6602859aS28
namespace Go.Proofs.Qxb6602859a
open Go.RowKit Kit
set_option linter.unusedVariables false
set_option linter.unusedSimpArgs false

set_option maxHeartbeats 8000000 in
set_option maxRecDepth 100000 in
theorem walk5 (w : World) (real z : Int) (no nt nk oc tc kc : Nat) (oa ta ka : Option Addr) (oz tz kz : Nat → Int) (a5 a6 m : Int)
    (rO : ArgS w oa no oc (fun i => .int .i32 (oz i))) (rT : ArgS w ta nt tc (fun i => .int .i32 (tz i))) (rK : ArgS w ka nk kc (fun i => .int .u8 (kz i)))
    (hoz : ∀ i, i < no → oz i ≤ 2147483647) (htz : ∀ i, i < nt → tz i ≤ 2147483647)
    (h5 : -2147483648 ≤ a5 ∧ a5 ≤ 2147483647) (h6 : -2147483648 ≤ a6 ∧ a6 ≤ 2147483647) :
    Calls Try.prog 5 #[.int .i64 real, .int .i64 z, .slice oa no oc, .slice ta nt tc, .slice ka nk kc, .int .i32 a5, .int .i32 a6, .int .u8 m] w (PostT w) := by
  have HB := hid (Below.refl w.heap.size w)
  have HR := hid (And.intro rO (And.intro rT rK))
  have hz := zzwf_any z no nt nk oc tc kc oa ta ka oz tz w rO.cel rT.cel hoz htz
  obtain ⟨b51, b52⟩ := h5
  obtain ⟨b61, b62⟩ := h6
  clear rO rT rK hoz htz
  go_enter Try.func5, Try.ntmps5
  change Code.wp Try.prog (restF Try.f5 0) _ _ _
  rw [rest5_0]
  conv => arg 2; arg 1; whnf
  go_wp2
  rw [rest5_1]
  conv => arg 2; arg 1; whnf
  go_wp2_with fail
  refine (zz15_any real z oa ta ka no nt nk oc tc kc a5 a6 m w).mono ?_
  rintro e w' ⟨⟨r, rfl⟩, hw⟩
  subst hw
  cases r
  · go_wp2
    go_ret
    exact ⟨rfl, HB.out⟩
  go_wp2
  rw [rest5_2]
  conv => arg 2; arg 1; whnf
  by_cases g0 : 4096 < no
  · have q0 : decide ((4096 : Int) < (no : Int)) = true := by simp; omega
    go_wp2
    go_ret
    exact ⟨rfl, HB.out⟩
  have q0 : decide ((4096 : Int) < (no : Int)) = false := by simp; omega
  have p0 : no ≤ 4096 := by omega
  clear g0
  by_cases g1 : 4096 < nt
  · have q1 : decide ((4096 : Int) < (nt : Int)) = true := by simp; omega
    go_wp2
    go_ret
    exact ⟨rfl, HB.out⟩
  have q1 : decide ((4096 : Int) < (nt : Int)) = false := by simp; omega
  have p1 : nt ≤ 4096 := by omega
  clear g1
  by_cases g2 : 4096 < nk
  · have q2 : decide ((4096 : Int) < (nk : Int)) = true := by simp; omega
    go_wp2
    go_ret
    exact ⟨rfl, HB.out⟩
  have q2 : decide ((4096 : Int) < (nk : Int)) = false := by simp; omega
  have p2 : nk ≤ 4096 := by omega
  clear g2
  go_wp2
  rw [rest5_3]
  conv => arg 2; arg 1; whnf
  go_wp2_with fail
  refine hz.mono ?_
  rintro e w1 ⟨hb1, rfl | ⟨rfl, n, hwf⟩⟩
  · go_wp2
    go_ret
    exact ⟨rfl, hb1⟩
  have HB1 := hid hb1
  have hnz := hwf.nodes
  have hno := hwf.len
  subst hnz
  subst hno
  obtain ⟨hgf, hge⟩ := hwf.gf (by omega) (by omega)
  have HGF := hid hgf
  have HGE := hid hge
  have hn := hgf.small
  clear hwf hb1 hz hgf hge
  go_wp2
  rw [rest5_4]
  conv => arg 2; arg 1; whnf
  by_cases n5 : a5 < 0
  · have qn5 : decide (a5 < 0) = true := by simp [n5]
    go_wp2
    go_ret
    exact ⟨rfl, HB1.out⟩
  have qn5 : decide (a5 < 0) = false := by simp; omega
  have s5 : 0 ≤ a5 := by omega
  by_cases m5 : (n : Int) ≤ a5
  · have qm5 : decide ((n : Int) ≤ a5) = true := by simp [m5]
    clear n5
    go_wp2
    go_ret
    exact ⟨rfl, HB1.out⟩
  have qm5 : decide ((n : Int) ≤ a5) = false := by simp; omega
  have l5 : a5 < (n : Int) := by omega
  clear n5 m5
  by_cases n6 : a6 < 0
  · have qn6 : decide (a6 < 0) = true := by simp [n6]
    go_wp2
    go_ret
    exact ⟨rfl, HB1.out⟩
  have qn6 : decide (a6 < 0) = false := by simp; omega
  have s6 : 0 ≤ a6 := by omega
  by_cases m6 : (n : Int) ≤ a6
  · have qm6 : decide ((n : Int) ≤ a6) = true := by simp [m6]
    clear n6
    go_wp2
    go_ret
    exact ⟨rfl, HB1.out⟩
  have qm6 : decide ((n : Int) ≤ a6) = false := by simp; omega
  have l6 : a6 < (n : Int) := by omega
  clear n6 m6
  go_wp2
  obtain ⟨u, hu⟩ : ∃ u : Nat, a5 = (u : Int) := ⟨a5.toNat, by omega⟩
  obtain ⟨v, hv⟩ : ∃ v : Nat, a6 = (v : Int) := ⟨a6.toNat, by omega⟩
  subst hu
  subst hv
  exact e5 real n nt nk oc tc kc u v m oa ta ka (fun i => (oz i).toNat) (fun e => (tz e).toNat) tz kz w' w1 ((HR.out.1.below HB1.out).congr (fun i hi => by have := HGE.out i (by omega); congr 1; omega)) (HR.out.2.1.below HB1.out) (HR.out.2.2.below HB1.out) HGF.out (by omega) (by omega) (by omega) (by omega) HB1.out HB1.out.size


end Go.Proofs.Qxb6602859a
