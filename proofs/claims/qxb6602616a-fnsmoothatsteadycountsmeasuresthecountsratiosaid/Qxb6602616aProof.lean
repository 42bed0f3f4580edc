import Derived.Test.Qxb6602616aW4
import Derived.ProofKit
import Derived.OpenShut
import Derived.ShutString
import Derived.ChangeOld
import Derived.Below
namespace Go.Proofs.Qxb6602616a.fnSmoothAtSteadyCountsMeasuresTheCountsRatio
open Go.ChangeShapes Go.WideShapes Go.ChangeAt Go.RowKit
set_option linter.unusedVariables false

theorem own : ownKnob Try.prog.godebug = none := by kernel_rfl
theorem laidOut : laidOutB Try.prog = true := by kernel_rfl

theorem int_bd {n : Int} (h : (Lit.int .i64 n).wf = true) : -9223372036854775808 ≤ n ∧ n ≤ 9223372036854775807 := by
  simpa [Lit.wf, IntKind.min, IntKind.max, IntKind.signed, IntKind.bits] using h

theorem float_bd {b : Nat} (h : (Lit.float .f64 b).wf = true) : b < 2 ^ 64 := by
  simpa [Lit.wf] using h

theorem float_of (n : Int) (h : 0 ≤ n) : floatOfInt .f64 n = Fl.cf n.toNat := by
  obtain ⟨m, rfl⟩ := Int.eq_ofNat_of_zero_le h
  have e1 : decide ((m : Int) < 0) = false := by simp
  show Ieee.double.write (.number (decide ((m : Int) < 0)) (m : Int).natAbs 0) = _
  rw [e1]
  show Ieee.double.nearest false (m : Int).natAbs 0 = _
  rw [Fl.cf_eq]; rfl

theorem cmp_ge {a b : Nat} (h : b ≤ a) : (some (compare a b) == some Ordering.gt || some (compare a b) == some Ordering.eq) = true := by
  rcases Nat.lt_or_eq_of_le h with h | h
  · rw [Nat.compare_eq_gt.2 h]; rfl
  · rw [Nat.compare_eq_eq.2 h.symm]; rfl

theorem cmp_le {a b : Nat} (h : a ≤ b) : (some (compare a b) == some Ordering.lt || some (compare a b) == some Ordering.eq) = true := by
  rcases Nat.lt_or_eq_of_le h with h | h
  · rw [Nat.compare_eq_lt.2 h]; rfl
  · rw [Nat.compare_eq_eq.2 h]; rfl

theorem cmp_self (a : Nat) : (some (compare a a) != some Ordering.eq) = false := by
  rw [Nat.compare_eq_eq.2 rfl]; rfl

theorem bne_no {o : Option Ordering} (h : (o != some Ordering.eq) = false) : o = some .eq := by simpa using h

theorem walk (n d : Int) (v0 wt0 v1 wt1 ms : Nat) (w : World) (hn : (Lit.int .i64 n).wf = true) (hd : (Lit.int .i64 d).wf = true)
    (hv0 : (Lit.float .f64 v0).wf = true) (hw0 : (Lit.float .f64 wt0).wf = true) (hv1 : (Lit.float .f64 v1).wf = true) (hw1 : (Lit.float .f64 wt1).wf = true) (hms : (Lit.float .f64 ms).wf = true) :
    Calls Try.prog 6 #[.int .i64 n, .int .i64 d, .float .f64 v0, .float .f64 wt0, .float .f64 v1, .float .f64 wt1, .float .f64 ms] w fun e w' => e = .returned (.bool true) ∧ Below w.heap.size w w' := by
  by_cases h : n < 0
  · exact law_neg1 n d v0 wt0 v1 wt1 ms w h
  by_cases h2 : d < 0
  · exact law_neg2 n d v0 wt0 v1 wt1 ms w h h2
  cases a1 : (FloatKind.f64.format.order wt0 0 == some .gt || FloatKind.f64.format.order wt0 0 == some .eq)
  · exact law_wt1 n d v0 wt0 v1 wt1 ms w h h2 a1
  cases a2 : (FloatKind.f64.format.order wt1 0 == some .gt || FloatKind.f64.format.order wt1 0 == some .eq)
  · exact law_wt2 n d v0 wt0 v1 wt1 ms w h h2 a1 a2
  cases a3 : (FloatKind.f64.format.order v0 (floatOfInt .f64 n) != some .eq)
  rotate_left
  · exact law_v1 n d v0 wt0 v1 wt1 ms w h h2 a1 a2 a3
  cases a4 : (FloatKind.f64.format.order v1 (floatOfInt .f64 d) != some .eq)
  rotate_left
  · exact law_v2 n d v0 wt0 v1 wt1 ms w h h2 a1 a2 a3 a4
  have hnb := int_bd hn
  have hdb := int_bd hd
  have hF := float_of n (by omega)
  have hD := float_of d (by omega)
  rw [hF] at a3
  rw [hD] at a4
  have nl : n.toNat ≤ 2 ^ 63 := by omega
  have dl : d.toNat ≤ 2 ^ 63 := by omega
  have Fl1 := Fl.cf_le nl
  have Dl1 := Fl.cf_le dl
  have Ff : Fl.cf n.toNat < 2047 * 2 ^ 52 := by omega
  have Df : Fl.cf d.toNat < 2047 * 2 ^ 52 := by omega
  obtain ⟨A, hA, hA1, hA2⟩ := Fl.den nl
  obtain ⟨k, hk, hk1, hk2⟩ := Fl.keepLaw hA1 hA2
  have P0 := Fl.pos_of_order (float_bd hw0) a1
  have P1 := Fl.pos_of_order (float_bd hw1) a2
  obtain ⟨p0, fw0, w10, e1, e2, e3, e4, e5, e6, e7⟩ := Fl.weightLaw hk1 hk2 P0
  obtain ⟨p1, fw1, w11, i1, i2, i3, i4, i5, i6, i7⟩ := Fl.weightLaw hk1 hk2 P1
  have V0 := Fl.eq_of_order (float_bd hv0) Ff (bne_no a3)
  have V1 := Fl.eq_of_order (float_bd hv1) Df (bne_no a4)
  obtain ⟨m1, m2, m3⟩ := Fl.meanLaw Ff V0 e4 (by omega)
  obtain ⟨o1, o2, o3⟩ := Fl.meanLaw Df V1 i4 (by omega)
  have b1 : (FloatKind.f64.format.order (Fl.cf n.toNat) (Fl.cf n.toNat) != some .eq) = false := by
    show (Ieee.double.order _ _ != _) = _
    rw [Fl.order_fin Ff Ff]; exact cmp_self _
  have b2 : (FloatKind.f64.format.order (Fl.cf d.toNat) (Fl.cf d.toNat) != some .eq) = false := by
    show (Ieee.double.order _ _ != _) = _
    rw [Fl.order_fin Df Df]; exact cmp_self _
  have one_le : 4607182418800017408 ≤ 2047 * 2 ^ 52 := by decide
  have b3 : (FloatKind.f64.format.order fw0 4607182418800017408 == some .gt || FloatKind.f64.format.order fw0 4607182418800017408 == some .eq) = true := by
    show (Ieee.double.order _ _ == _ || Ieee.double.order _ _ == _) = _
    rw [Fl.order_pos (by omega) one_le]; exact cmp_ge e4
  have b4 : (FloatKind.f64.format.order fw0 w10 == some .lt || FloatKind.f64.format.order fw0 w10 == some .eq) = true := by
    show (Ieee.double.order _ _ == _ || Ieee.double.order _ _ == _) = _
    rw [Fl.order_pos (by omega) e6]; exact cmp_le e5
  have b5 : (FloatKind.f64.format.order fw1 4607182418800017408 == some .gt || FloatKind.f64.format.order fw1 4607182418800017408 == some .eq) = true := by
    show (Ieee.double.order _ _ == _ || Ieee.double.order _ _ == _) = _
    rw [Fl.order_pos (by omega) one_le]; exact cmp_ge i4
  have b6 : (FloatKind.f64.format.order fw1 w11 == some .lt || FloatKind.f64.format.order fw1 w11 == some .eq) = true := by
    show (Ieee.double.order _ _ == _ || Ieee.double.order _ _ == _) = _
    rw [Fl.order_pos (by omega) i6]; exact cmp_le i5
  by_cases hz : n = 0
  · have hcf : Fl.cf n.toNat = 0 := by rw [hz]; exact Fl.cf_zero
    have hk1' : k = 4607182418800017408 := by
      rw [hcf] at hA
      have ea : Ieee.double.add 4652007308841189376 0 = some 4652007308841189376 := by decide +kernel
      rw [ea] at hA
      cases hA
      have eb : Ieee.double.div 4652007308841189376 4652007308841189376 = some 4607182418800017408 := by decide +kernel
      rw [eb] at hk
      cases hk; rfl
    have b7 : (FloatKind.f64.format.order fw0 w10 != some .eq) = false := by
      show (Ieee.double.order _ _ != _) = _
      rw [e7 hk1', Fl.order_pos e6 e6]; exact cmp_self _
    have b8 : (FloatKind.f64.format.order fw1 w11 != some .eq) = false := by
      show (Ieee.double.order _ _ != _) = _
      rw [i7 hk1', Fl.order_pos i6 i6]; exact cmp_self _
    by_cases hd0 : 0 < d
    · have hDp : 0 < Fl.cf d.toNat := by
        have := Fl.cf_pos (n := d.toNat) (by omega)
        omega
      obtain ⟨q1, q2⟩ := Fl.ratioInf hDp Df
      refine law_dup n d v0 wt0 v1 wt1 ms (Fl.cf n.toNat) (Fl.cf d.toNat) A k p0 fw0 w10 p1 fw1 w11 (2047 * 2 ^ 52) w h h2 hF hD a1 a2 a3 a4 hA hk e1 e2 m1 m2 m3 i1 i2 o1 o2 o3 e3 i3 b1 b2 b3 b4 b5 b6 ?_ (by simp; omega) (by simpa using hd0) (by simpa using hz) b7 b8 ?_
      · rw [hcf]; exact q1
      · show (Ieee.double.order _ _ == _) = _
        rw [q2]; rfl
    · exact law_no n d v0 wt0 v1 wt1 ms (Fl.cf n.toNat) (Fl.cf d.toNat) A k p0 fw0 w10 p1 fw1 w11 w h h2 hF hD a1 a2 a3 a4 hA hk e1 e2 m1 m2 m3 i1 i2 o1 o2 o3 e3 i3 b1 b2 b3 b4 b5 b6 (by simp; omega) (by simpa using hd0) (by simpa using hz) b7 b8
  · have hFp : 0 < Fl.cf n.toNat := by
      have := Fl.cf_pos (n := n.toNat) (by omega)
      omega
    obtain ⟨r, q1, q2⟩ := Fl.ratioLaw hFp Ff Df
    refine law_first n d v0 wt0 v1 wt1 ms (Fl.cf n.toNat) (Fl.cf d.toNat) A k p0 fw0 w10 p1 fw1 w11 r w h h2 hF hD a1 a2 a3 a4 hA hk e1 e2 m1 m2 m3 i1 i2 o1 o2 o3 e3 i3 b1 b2 b3 b4 b5 b6 q1 (by simp; omega) (by simpa using hz) ?_
    show (Ieee.double.order _ _ == _) = _
    rw [q2]; rfl

set_option maxRecDepth 100000 in
theorem lifted (os : Os) (started : os.Started) (H : Type) (enc : TypeId × Value → H) :
    ReturnsInHanded {} Try.checked os 6 .any (Rows.fnSmoothAtSteadyCountsMeasuresTheCountsRatioSpec.pre6 enc Try.prog Try.f6 Rows.fnSmoothAtSteadyCountsMeasuresTheCountsRatioRow.domain false) (Rows.fnSmoothAtSteadyCountsMeasuresTheCountsRatioSpec.post enc Try.prog Try.f6 false true false false) := by
  refine returnsInHanded_of_change (C := Try.checked) own started (by kernel_rfl) Try.func6
    (ChangeSpec.witness6 (enc := enc) (C := Try.checked) false ⟨#[], #[.int .i64 0, .int .i64 0, .float .f64 0, .float .f64 0, .float .f64 0, .float .f64 0, .float .f64 0], []⟩ 8 (by kernel_rfl) (by kernel_rfl) (by kernel_rfl) (by kernel_rfl)) ?_
  intro W base args ds gs before hval0 hW hcnd _
  have hval : ∀ (j : Nat) t v, Try.f6.params[j]? = some t → args[j]? = some v → Value.okWide Try.prog W .any base t v := hval0
  have hW' := hW
  obtain ⟨p, q, hA0, hV, rfl, hfz, hnd⟩ := hW
  have hA : DataW.TrodAll enc Try.prog W 0 (fun _ => true) true Try.f6.params.toList args.toList ds p := hA0
  rw [Try.params6] at hA hval
  obtain ⟨v0, vs0, d0, ds0, p0, q0, hargs, rfl, rfl, h0, r0⟩ := trodAll_cons hA
  obtain ⟨v1, vs1, d1, ds1, p1, q1, rfl, rfl, rfl, h1, r1⟩ := trodAll_cons r0
  obtain ⟨v2, vs2, d2, ds2, p2, q2, rfl, rfl, rfl, h2, r2⟩ := trodAll_cons r1
  obtain ⟨v3, vs3, d3, ds3, p3, q3, rfl, rfl, rfl, h3, r3⟩ := trodAll_cons r2
  obtain ⟨v4, vs4, d4, ds4, p4, q4, rfl, rfl, rfl, h4, r4⟩ := trodAll_cons r3
  obtain ⟨v5, vs5, d5, ds5, p5, q5, rfl, rfl, rfl, h5, r5⟩ := trodAll_cons r4
  obtain ⟨v6, vs6, d6, ds6, p6, q6, rfl, rfl, rfl, h6, r6⟩ := trodAll_cons r5
  obtain ⟨rfl, rfl, rfl⟩ := trodAll_nil r6
  obtain rfl : args = #[v0, v1, v2, v3, v4, v5, v6] := by cases args; simp_all
  obtain ⟨rfl, rfl⟩ := trodVars_none hV
  obtain ⟨a0, rfl, rfl, rfl, w0⟩ := open_int Try.underlying2 (hval 0 2 v0 rfl rfl) h0
  obtain ⟨a1, rfl, rfl, rfl, w1⟩ := open_int Try.underlying2 (hval 1 2 v1 rfl rfl) h1
  obtain ⟨a2, rfl, rfl, rfl, w2⟩ := open_float Try.underlying22 (hval 2 22 v2 rfl rfl) h2
  obtain ⟨a3, rfl, rfl, rfl, w3⟩ := open_float Try.underlying22 (hval 3 22 v3 rfl rfl) h3
  obtain ⟨a4, rfl, rfl, rfl, w4⟩ := open_float Try.underlying22 (hval 4 22 v4 rfl rfl) h4
  obtain ⟨a5, rfl, rfl, rfl, w5⟩ := open_float Try.underlying22 (hval 5 22 v5 rfl rfl) h5
  obtain ⟨a6, rfl, rfl, rfl, w6⟩ := open_float Try.underlying22 (hval 6 22 v6 rfl rfl) h6
  clear hA0 hval0
  refine (walk a0 a1 a2 a3 a4 a5 a6 W w0 w1 w2 w3 w4 w5 w6).mono fun e W' ⟨he, bel⟩ => ?_
  subst he
  exact ⟨_, rfl, _, _, _, [], _, [], hW', trodAll_mk1 (shut_bool Try.underlying4 _), (trodAll_cons_mk (shut_int Try.underlying2 w0) (trodAll_cons_mk (shut_int Try.underlying2 w1) (trodAll_cons_mk (shut_float Try.underlying22 w2) (trodAll_cons_mk (shut_float Try.underlying22 w3) (trodAll_cons_mk (shut_float Try.underlying22 w4) (trodAll_cons_mk (shut_float Try.underlying22 w5) (trodAll_cons_mk (shut_float Try.underlying22 w6) trodAll_mk0))))))), rfl, bel.frame _, fun h => by cases h⟩

theorem over : Rows.fnSmoothAtSteadyCountsMeasuresTheCountsRatioRow.holds Try.pinned (OpenSpec.ofChange Rows.fnSmoothAtSteadyCountsMeasuresTheCountsRatioSpec) :=
  OpenClaim.holds_of_wide 6 Try.f6 rfl rfl rfl rfl rfl rfl rfl ⟨rfl, rfl, rfl, rfl, rfl⟩ rfl rfl rfl rfl rfl (by kernel_rfl) Try.func6 (by kernel_rfl)
    (of_decide_eq_true (by kernel_rfl)) (by unfold Func.isWrapper; first | (rw [if_pos (by decide +kernel)]; kernel_rfl) | (rw [if_neg (by decide +kernel)]; exact ⟨rfl, rfl⟩))
    (fun os started H enc _ => lifted os started H enc)

theorem proved : Rows.FnSmoothAtSteadyCountsMeasuresTheCountsRatioSaid := over
#print axioms proved
end Go.Proofs.Qxb6602616a.fnSmoothAtSteadyCountsMeasuresTheCountsRatio
