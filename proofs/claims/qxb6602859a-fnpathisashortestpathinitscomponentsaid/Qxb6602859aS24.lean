import Derived.Test.Qxb6602859aS23
namespace Go.Proofs.Qxb6602859a
open Go.RowKit Kit
set_option linter.unusedVariables false
set_option linter.unusedSimpArgs false

/-- the graph's numbers, out of the law's own look at them -/
theorem WfZ.gf {z : Int} {no nt nk : Nat} {oz tz : Nat → Int} {n : Nat} (h : WfZ z no nt nk oz tz n) (h1 : nt ≤ 65536) (h2 : nk ≤ 65536) :
    GF n nt nk (fun i => (oz i).toNat) tz (fun e => (tz e).toNat) ∧ ∀ i, i ≤ n → 0 ≤ oz i := by
  have hge : ∀ i, i ≤ n → 0 ≤ oz i := by
    intro i
    induction i with
    | zero => intro _; exact h.first
    | succ i ih => intro hi; have := ih (by omega); have := h.mono i (by omega); omega
  refine ⟨⟨h.small, fun x hx => ?_, ?_, ?_, h1, h2, fun e he1 he2 => ?_⟩, hge⟩
  · have := h.mono x hx
    have := hge x (by omega)
    omega
  · have := h.le1; have := hge n (Nat.le_refl _); omega
  · have := h.le2; have := hge n (Nat.le_refl _); omega
  · have h0 := hge 0 (Nat.zero_le _)
    have hn := hge n (Nat.le_refl _)
    have := h.tgt e (by omega) (by omega)
    omega

set_option maxHeartbeats 8000000 in
set_option maxRecDepth 100000 in
theorem walk6 (w : World) (real z : Int) (no nt nk oc tc kc : Nat) (oa ta ka : Option Addr) (oz tz kz : Nat → Int) (a5 a6 a7 m : Int)
    (rO : ArgS w oa no oc (fun i => .int .i32 (oz i))) (rT : ArgS w ta nt tc (fun i => .int .i32 (tz i))) (rK : ArgS w ka nk kc (fun i => .int .u8 (kz i)))
    (hoz : ∀ i, i < no → oz i ≤ 2147483647) (htz : ∀ i, i < nt → tz i ≤ 2147483647)
    (h5 : -2147483648 ≤ a5 ∧ a5 ≤ 2147483647) (h6 : -2147483648 ≤ a6 ∧ a6 ≤ 2147483647) (h7 : -2147483648 ≤ a7 ∧ a7 ≤ 2147483647) :
    Calls Try.prog 6 #[.int .i64 real, .int .i64 z, .slice oa no oc, .slice ta nt tc, .slice ka nk kc, .int .i32 a5, .int .i32 a6, .int .i32 a7, .int .u8 m] w (PostT w) := by
  have HB := hid (Below.refl w.heap.size w)
  have HR := hid (And.intro rO (And.intro rT rK))
  have hz := zzwf_any z no nt nk oc tc kc oa ta ka oz tz w rO.cel rT.cel hoz htz
  have H5 := hid h5
  have H6 := hid h6
  have H7 := hid h7
  obtain ⟨b51, b52⟩ := h5
  obtain ⟨b61, b62⟩ := h6
  obtain ⟨b71, b72⟩ := h7
  clear rO rT rK hoz htz
  go_enter Try.func6, Try.ntmps6
  change Code.wp Try.prog (restF Try.f6 0) _ _ _
  rw [rest6_0]
  conv => arg 2; arg 1; whnf
  go_wp2
  rw [rest6_1]
  conv => arg 2; arg 1; whnf
  go_wp2_with fail
  refine (zz19_any real z oa ta ka no nt nk oc tc kc a5 a6 a7 m w).mono ?_
  rintro e w' ⟨⟨r, rfl⟩, hw⟩
  subst hw
  cases r
  · go_wp2
    go_ret
    exact ⟨rfl, HB.out⟩
  go_wp2
  rw [rest6_2]
  conv => arg 2; arg 1; whnf
  by_cases g0 : 65536 < no
  · have q0 : decide ((65536 : Int) < (no : Int)) = true := by simp; omega
    go_wp2
    go_ret
    exact ⟨rfl, HB.out⟩
  have q0 : decide ((65536 : Int) < (no : Int)) = false := by simp; omega
  have p0 : no ≤ 65536 := by omega
  clear g0
  by_cases g1 : 65536 < nt
  · have q1 : decide ((65536 : Int) < (nt : Int)) = true := by simp; omega
    go_wp2
    go_ret
    exact ⟨rfl, HB.out⟩
  have q1 : decide ((65536 : Int) < (nt : Int)) = false := by simp; omega
  have p1 : nt ≤ 65536 := by omega
  clear g1
  by_cases g2 : 65536 < nk
  · have q2 : decide ((65536 : Int) < (nk : Int)) = true := by simp; omega
    go_wp2
    go_ret
    exact ⟨rfl, HB.out⟩
  have q2 : decide ((65536 : Int) < (nk : Int)) = false := by simp; omega
  have p2 : nk ≤ 65536 := by omega
  clear g2
  go_wp2
  rw [rest6_3]
  conv => arg 2; arg 1; whnf
  go_wp2_with fail
  refine hz.mono ?_
  rintro e w1 ⟨hb1, rfl | ⟨rfl, n, hwf⟩⟩
  · go_wp2
    go_ret
    exact ⟨rfl, hb1⟩
  have HWF := hid hwf
  have HB1 := hid hb1
  have hnz := hwf.nodes
  have hno := hwf.len
  subst hnz
  subst hno
  obtain ⟨hgf, hge⟩ := hwf.gf p1 p2
  have HGF := hid hgf
  have HGE := hid hge
  have hn := hgf.small
  clear hwf hb1 hz hgf hge
  go_wp2
  rw [rest6_4]
  conv => arg 2; arg 1; whnf
  by_cases n5 : a5 < 0
  · have qn5 : decide (a5 < 0) = true := by simp [n5]
    go_wp2
    go_ret
    exact ⟨rfl, HB1.out⟩
  have qn5 : decide (a5 < 0) = false := by simp; omega
  have s5 : 0 ≤ a5 := by omega
  by_cases m5 : (n : Int) ≤ a5
  · have qm5 : decide ((n : Int) ≤ a5) = true := by simp [m5]
    clear n5
    go_wp2
    go_ret
    exact ⟨rfl, HB1.out⟩
  have qm5 : decide ((n : Int) ≤ a5) = false := by simp; omega
  have l5 : a5 < (n : Int) := by omega
  clear n5 m5
  by_cases n6 : a6 < 0
  · have qn6 : decide (a6 < 0) = true := by simp [n6]
    go_wp2
    go_ret
    exact ⟨rfl, HB1.out⟩
  have qn6 : decide (a6 < 0) = false := by simp; omega
  have s6 : 0 ≤ a6 := by omega
  by_cases m6 : (n : Int) ≤ a6
  · have qm6 : decide ((n : Int) ≤ a6) = true := by simp [m6]
    clear n6
    go_wp2
    go_ret
    exact ⟨rfl, HB1.out⟩
  have qm6 : decide ((n : Int) ≤ a6) = false := by simp; omega
  have l6 : a6 < (n : Int) := by omega
  clear n6 m6
  by_cases n7 : a7 < 0
  · have qn7 : decide (a7 < 0) = true := by simp [n7]
    go_wp2
    go_ret
    exact ⟨rfl, HB1.out⟩
  have qn7 : decide (a7 < 0) = false := by simp; omega
  have s7 : 0 ≤ a7 := by omega
  by_cases m7 : (n : Int) ≤ a7
  · have qm7 : decide ((n : Int) ≤ a7) = true := by simp [m7]
    clear n7
    go_wp2
    go_ret
    exact ⟨rfl, HB1.out⟩
  have qm7 : decide ((n : Int) ≤ a7) = false := by simp; omega
  have l7 : a7 < (n : Int) := by omega
  clear n7 m7
  go_wp2
  obtain ⟨u, hu⟩ : ∃ u : Nat, a5 = (u : Int) := ⟨a5.toNat, by omega⟩
  obtain ⟨v, hv⟩ : ∃ v : Nat, a6 = (v : Int) := ⟨a6.toNat, by omega⟩
  obtain ⟨t, ht⟩ : ∃ t : Nat, a7 = (t : Int) := ⟨a7.toNat, by omega⟩
  subst hu
  subst hv
  subst ht
  exact t5 real n nt nk oc tc kc u v t m oa ta ka (fun i => (oz i).toNat) (fun e => (tz e).toNat) tz kz w' w1 ((HR.out.1.below HB1.out).congr (fun i hi => by have := HGE.out i (by omega); congr 1; omega)) (HR.out.2.1.below HB1.out) (HR.out.2.2.below HB1.out) HGF.out (by omega) (by omega) (by omega) HB1.out HB1.out.size


end Go.Proofs.Qxb6602859a
