/-
  Plain laws for 'smooth': what keep, the weights, the means and the ratio come to, in words of a double. No Go here.
-/
import Derived.Test.Qxb6602616aFl
namespace Go.Proofs.Qxb6602616a.Fl
open Ieee

theorem one_fin : 4607182418800017408 < 2047 * 2 ^ 52 := by decide
theorem kilo_fin : 4652007308841189376 < 2047 * 2 ^ 52 := by decide

/-- the float of a count -/
def cf (n : Nat) : Nat := rung n 0

theorem rung_zero (B : Int) : rung 0 B = 0 := by unfold rung; exact if_pos rfl

theorem word_pos (x : Nat) : double.word false x = x := by unfold Format.word; exact if_neg (by decide)

theorem cf_eq (n : Nat) : double.nearest false n 0 = cf n := by rw [nearest_eq, word_pos]; unfold cf; exact Eq.refl _

theorem cf_le {n : Nat} (h : n ≤ 2 ^ 63) : cf n ≤ 4890909195324358656 := by
  have := rung_mono 0 h
  have e : rung (2 ^ 63) 0 = 4890909195324358656 := by decide +kernel
  unfold cf; omega

theorem cf_zero : cf 0 = 0 := rung_zero 0

theorem cf_pos {n : Nat} (h : 1 ≤ n) : 4607182418800017408 ≤ cf n := by
  have := rung_mono 0 h
  have e : rung 1 0 = 4607182418800017408 := by decide +kernel
  unfold cf; omega

theorem V_zero : V 0 = 0 := by decide +kernel

/-- 1000 + the count -/
theorem den {n : Nat} (h : n ≤ 2 ^ 63) : ∃ A, double.add 4652007308841189376 (cf n) = some A ∧ 4652007308841189376 ≤ A ∧ A ≤ 4890909195324358656 := by
  have hF := cf_le h
  refine ⟨_, add_fin kilo_fin (by omega), ?_, ?_⟩
  · have := rung_mono (-1074) (Nat.le_add_right (V 4652007308841189376) (V (cf n)))
    rwa [rung_V kilo_fin] at this
  · have h1 : V (cf n) ≤ V 4890909195324358656 := (V_le (by omega) (by decide)).2 hF
    have h2 := rung_mono (-1074) (Nat.add_le_add_left h1 (V 4652007308841189376))
    have e : rung (V 4652007308841189376 + V 4890909195324358656) (-1074) = 4890909195324358656 := by decide +kernel
    omega

theorem keepLaw {A : Nat} (h1 : 4652007308841189376 ≤ A) (h2 : A ≤ 4890909195324358656) : ∃ k, double.div 4652007308841189376 A = some k ∧ 0 < k ∧ k ≤ 4607182418800017408 := by
  have hA : A < 2047 * 2 ^ 52 := by omega
  have mK : mg 4652007308841189376 = 8796093022208000 := by decide +kernel
  have pK : pl 4652007308841189376 = -43 := by decide +kernel
  have hn : ¬ A < 2 ^ 52 := by omega
  have hm : A % 2 ^ 52 < 2 ^ 52 := Nat.mod_lt _ (Nat.two_pow_pos _)
  have hdm := Nat.div_add_mod A (2 ^ 52)
  have mA : mg A = 2 ^ 52 + A % 2 ^ 52 := by unfold mg; simp [hn]
  have pA : pl A = -1074 + ((A / 2 ^ 52 - 1 : Nat) : Int) := by unfold pl; simp [hn]
  have hle : V 4652007308841189376 ≤ V A := (V_le kilo_fin hA).2 h1
  have pA1 : -43 ≤ pl A := by rw [pA]; omega
  have pA2 : pl A ≤ 11 := by rw [pA]; omega
  have logA : (mg A).log2 = 52 := by rw [mA, Nat.log2_eq_iff (by omega)]; omega
  have logK : (8796093022208000 : Nat).log2 = 52 := by decide +kernel
  have nz : mg A ≠ 0 := by omega
  unfold Format.div
  rw [read_fin kilo_fin, read_fin hA]
  unfold Datum.quotient
  rw [mK, pK]
  simp only [show (false ^^ false) = false from rfl, nz, if_false, Option.map_some, Format.write, nearest_eq, Format.word, Bool.false_eq_true, logA, logK]
  refine ⟨_, rfl, ?_, ?_⟩
  all_goals rw [show double.fractionBits + 2 + 52 - 52 = 54 from rfl, Nat.shiftLeft_eq]
  · refine rung_pos ?_ (by omega)
    have : 1 ≤ 8796093022208000 * 2 ^ 54 / mg A := by
      rw [Nat.le_div_iff_mul_le (by omega)]
      omega
    omega
  · have e1 : rung 1 0 = 4607182418800017408 := by decide +kernel
    have e2 : rung (2 ^ (pl A + 98).toNat) (-43 - pl A - ((54 : Nat) : Int) - 1) = 4607182418800017408 := by
      rw [← e1, ← Nat.one_mul (2 ^ (pl A + 98).toNat), rung_scale]
      congr 1; omega
    rw [← e2]
    refine rung_mono _ ?_
    -- D ≤ n * 2 ^ (j + 97)
    have hD : 8796093022208000 * 2 ^ 54 ≤ mg A * 2 ^ (pl A + 97).toNat := by
      have h3 : mg 4652007308841189376 * 2 ^ (pl 4652007308841189376 - -97).toNat * 2 ^ ((-97 : Int) + 1074).toNat ≤ mg A * 2 ^ (pl A - -97).toNat * 2 ^ ((-97 : Int) + 1074).toNat := by
        rw [← V_at _ _ (by omega) (by omega), ← V_at _ _ (by omega) (by omega)]; exact hle
      have h4 := Nat.le_of_mul_le_mul_right h3 (Nat.two_pow_pos _)
      rw [mK, pK, show ((-43 : Int) - -97).toNat = 54 from rfl, show pl A - -97 = pl A + 97 by omega] at h4
      exact h4
    have e3 : 2 ^ (pl A + 98).toNat = 2 * 2 ^ (pl A + 97).toNat := by
      rw [show (pl A + 98).toNat = (pl A + 97).toNat + 1 by omega, Nat.pow_succ, Nat.mul_comm]
    rw [e3]
    generalize 8796093022208000 * 2 ^ 54 = D at *
    generalize 2 ^ (pl A + 97).toNat = T at *
    generalize mg A = n at *
    have hq : D / n ≤ T := by
      have := Nat.div_le_div_right (c := n) hD
      rwa [Nat.mul_div_cancel_left _ (by omega)] at this
    have hd := Nat.div_add_mod D n
    have hb := Bool.toNat_le (D % n != 0)
    rcases Nat.lt_or_eq_of_le hq with hlt | heq
    · omega
    · have hz : D % n = 0 := by rw [heq] at hd; omega
      rw [hz, heq]
      simp

theorem V_one : ∃ e : Nat, (e : Int) = 1074 ∧ V 4607182418800017408 = 2 ^ e := by
  have m1 : mg 4607182418800017408 = 2 ^ 52 := by decide +kernel
  have p1 : pl 4607182418800017408 = -52 := by decide +kernel
  refine ⟨52 + (pl 4607182418800017408 + 1074).toNat, ?_, ?_⟩
  · rw [p1]; omega
  · unfold V; rw [m1, Nat.pow_add]

theorem mul_one_rung {w : Nat} (hw : w < 2047 * 2 ^ 52) : rung (V w * V 4607182418800017408) (-2148) = w := by
  obtain ⟨e, he, hV⟩ := V_one
  rw [hV, rung_scale, he, show (-2148 + (1074 : Int)) = -1074 by omega, rung_V hw]

/-- a word that is zero or more: +0 upwards to the infinity, or -0 -/
def Pos (w : Nat) : Prop := w ≤ 2047 * 2 ^ 52 ∨ w = 2 ^ 63

theorem mul_negzero {k : Nat} (h2 : k ≤ 4607182418800017408) : double.mul k (2 ^ 63) = some (2 ^ 63) := by
  have hk : k < 2047 * 2 ^ 52 := by omega
  unfold Format.mul
  rw [read_fin hk, show double.read (2 ^ 63) = .number true 0 (-1074) by decide +kernel]
  unfold Datum.product
  simp only [show (false ^^ true) = true from rfl, Option.map_some, Format.write, nearest_eq, Nat.mul_zero, rung_zero]
  rfl

/-- THE WEIGHT: keep * w + 1 lies between 1 and w + 1. -/
theorem weightLaw {k w : Nat} (h1 : 0 < k) (h2 : k ≤ 4607182418800017408) (hw : Pos w) :
    ∃ p fw w1, double.mul k w = some p ∧ double.add p 4607182418800017408 = some fw ∧ double.add w 4607182418800017408 = some w1
      ∧ 4607182418800017408 ≤ fw ∧ fw ≤ w1 ∧ w1 ≤ 2047 * 2 ^ 52 ∧ (k = 4607182418800017408 → fw = w1) := by
  have hk : k < 2047 * 2 ^ 52 := by omega
  rcases hw with hw | hw
  · rcases Nat.lt_or_eq_of_le hw with hlt | heq
    · have hVk : V k ≤ V 4607182418800017408 := (V_le hk one_fin).2 h2
      have hm := mul_fin hk hlt
      have hle : rung (V k * V w) (-2148) ≤ w := by
        have := rung_mono (-2148) (Nat.mul_le_mul_right (V w) hVk)
        rw [Nat.mul_comm (V 4607182418800017408), mul_one_rung hlt] at this
        exact this
      generalize hp : rung (V k * V w) (-2148) = p at *
      have hpf : p < 2047 * 2 ^ 52 := by omega
      refine ⟨p, _, _, hm, add_fin hpf one_fin, add_fin hlt one_fin, ?_, ?_, rung_le _ _, ?_⟩
      · have := rung_mono (-1074) (Nat.le_add_left (V 4607182418800017408) (V p))
        rwa [rung_V one_fin] at this
      · exact rung_mono _ (Nat.add_le_add_right ((V_le hpf hlt).2 hle) _)
      · intro e
        rw [e, Nat.mul_comm, mul_one_rung hlt] at hp
        rw [hp]
    · subst heq
      have hinf : double.add (2047 * 2 ^ 52) 4607182418800017408 = some (2047 * 2 ^ 52) := by decide +kernel
      refine ⟨2047 * 2 ^ 52, 2047 * 2 ^ 52, 2047 * 2 ^ 52, ?_, hinf, hinf, by decide, Nat.le_refl _, Nat.le_refl _, fun _ => rfl⟩
      have nz : mg k ≠ 0 := by
        intro h0
        have := rung_mg hk
        rw [h0] at this
        have e0 : rung 0 (pl k) = 0 := rung_zero _
        omega
      unfold Format.mul
      rw [read_fin hk, read_inf]
      unfold Datum.product
      simp only [nz, if_false, Option.map_some, Format.write, show (false ^^ false) = false from rfl, Format.word, Bool.false_eq_true]
      rw [consts.2.2.1]
  · subst hw
    refine ⟨2 ^ 63, 4607182418800017408, 4607182418800017408, mul_negzero h2, ?_, ?_, by omega, by omega, by omega, fun _ => rfl⟩
    all_goals decide +kernel

/-- THE MEAN at a steady count stays just there. -/
theorem meanLaw {F v fw : Nat} (hF : F < 2047 * 2 ^ 52) (hv : v = F ∨ (v = 2 ^ 63 ∧ F = 0)) (h1 : 4607182418800017408 ≤ fw) (h2 : fw ≤ 2047 * 2 ^ 52) :
    double.sub F v = some 0 ∧ double.div 0 fw = some 0 ∧ double.add v 0 = some F := by
  refine ⟨?_, ?_, ?_⟩
  · rcases hv with rfl | ⟨rfl, rfl⟩
    · unfold Format.sub
      rw [read_fin hF]
      unfold Datum.opposite Datum.sum signed
      simp only [Bool.not_false, Bool.false_eq_true, if_false, if_true, Int.add_right_neg, Int.natAbs_zero, Bool.false_and, Option.map_some, Format.write, nearest_eq, rung_zero]
      rfl
    · decide +kernel
  · rcases Nat.lt_or_eq_of_le h2 with hlt | heq
    · have nz : mg fw ≠ 0 := by
        intro h0
        have := rung_mg hlt
        rw [h0] at this
        have e0 : rung 0 (pl fw) = 0 := rung_zero _
        omega
      unfold Format.div
      rw [read_fin (by decide : (0 : Nat) < 2047 * 2 ^ 52), read_fin hlt]
      have m0 : mg 0 = 0 := rfl
      unfold Datum.quotient
      simp only [m0, nz, if_false, Nat.zero_shiftLeft, Nat.zero_div, Nat.zero_mod, show (false ^^ false) = false from rfl, Nat.mul_zero, bne_self_eq_false, Bool.toNat_false, Nat.add_zero, Option.map_some, Format.write, nearest_eq, rung_zero]
      rfl
    · subst heq
      decide +kernel
  · rcases hv with rfl | ⟨rfl, rfl⟩
    · rw [add_fin hF (by decide), V_zero, Nat.add_zero, rung_V hF]
    · decide +kernel

/-- THE RATIO: a count of duplicates to a count of first receipts, not nought. -/
theorem ratioLaw {F D : Nat} (hF0 : 0 < F) (hF : F < 2047 * 2 ^ 52) (hD : D < 2047 * 2 ^ 52) : ∃ r, double.div D F = some r ∧ double.order r r = some .eq := by
  have nz : mg F ≠ 0 := by
    intro h0
    have := rung_mg hF
    rw [h0] at this
    have e0 : rung 0 (pl F) = 0 := rung_zero _
    omega
  unfold Format.div
  rw [read_fin hD, read_fin hF]
  unfold Datum.quotient
  simp only [nz, if_false, show (false ^^ false) = false from rfl, Option.map_some, Format.write, nearest_eq, Format.word, Bool.false_eq_true]
  refine ⟨_, rfl, ?_⟩
  rw [order_pos (rung_le _ _) (rung_le _ _), Nat.compare_eq_eq.2 rfl]

theorem ratioInf {D : Nat} (hD0 : 0 < D) (hD : D < 2047 * 2 ^ 52) : double.div D 0 = some (2047 * 2 ^ 52) ∧ double.order (2047 * 2 ^ 52) 9218868437227405311 = some .gt := by
  refine ⟨?_, by decide +kernel⟩
  have nz : mg D ≠ 0 := by
    intro h0
    have := rung_mg hD
    rw [h0] at this
    have e0 : rung 0 (pl D) = 0 := rung_zero _
    omega
  unfold Format.div
  rw [read_fin hD, read_fin (by decide : (0 : Nat) < 2047 * 2 ^ 52)]
  have m0 : mg 0 = 0 := rfl
  unfold Datum.quotient
  simp only [m0, nz, if_true, if_false, show (false ^^ false) = false from rfl, Option.map_some, Format.write, Format.word, Bool.false_eq_true]
  rw [consts.2.2.1]

/-- how a word reads by its sign bit -/
theorem read_split {w : Nat} (h : w < 2 ^ 64) : (w < 2 ^ 63) ∨ (2 ^ 63 ≤ w ∧ ∃ r, r < 2 ^ 63 ∧ w = 2 ^ 63 + r) := by
  rcases Nat.lt_or_ge w (2 ^ 63) with h1 | h1
  · exact .inl h1
  · exact .inr ⟨h1, w - 2 ^ 63, by omega, by omega⟩

theorem order_nan {x y : Nat} (h : 2047 * 2 ^ 52 < x) (h2 : x < 2 ^ 63) : double.order x y = none := by
  obtain ⟨c1, c2, c3, c4⟩ := consts
  unfold Format.order
  have : double.read x = .nan false (x - 2047 * 2 ^ 52) := by
    unfold Format.read
    rw [c2, c3, c4]
    have e1 : x / 2 ^ 63 = 0 := Nat.div_eq_of_lt (by omega)
    have e2 : x % 2 ^ 63 = x := Nat.mod_eq_of_lt (by omega)
    rw [e1, e2]
    have a1 : ¬ x < 2 ^ 52 := by omega
    have a2 : ¬ x < 2047 * 2 ^ 52 := by omega
    have a3 : ¬ x = 2047 * 2 ^ 52 := by omega
    simp only [a1, a2, a3, if_false]; rfl
  rw [this]
  unfold Datum.order
  rfl

/-- a negative word other than -0 lies below every word that is zero or more -/
theorem order_neg {r y : Nat} (h0 : 0 < r) (h : r < 2 ^ 63) (hy : y < 2047 * 2 ^ 52) : double.order (2 ^ 63 + r) y = some .lt ∨ double.order (2 ^ 63 + r) y = none := by
  obtain ⟨c1, c2, c3, c4⟩ := consts
  unfold Format.order
  have hr : double.read (2 ^ 63 + r) = if r < 2 ^ 52 then .number true r (-1074) else if r < 2047 * 2 ^ 52 then .number true (2 ^ 52 + r % 2 ^ 52) (-1074 + ((r / 2 ^ 52 - 1 : Nat) : Int)) else if r = 2047 * 2 ^ 52 then .infinity true else .nan true (r - 2047 * 2 ^ 52) := by
    unfold Format.read
    rw [c1, c2, c3, c4]
    have e1 : (2 ^ 63 + r) / 2 ^ 63 = 1 := by omega
    have e2 : (2 ^ 63 + r) % 2 ^ 63 = r := by omega
    rw [e1, e2]; rfl
  rw [hr, read_fin hy]
  have num : ∀ (m : Nat) (i : Int), m ≠ 0 → (Datum.number true m i).order (.number false (mg y) (pl y)) = some .lt := by
    intro m i hm
    unfold Datum.order signed
    simp only [if_true, Bool.false_eq_true, if_false, Nat.shiftLeft_eq]
    congr 1
    rw [Int.compare_eq_lt]
    have hp : 0 < m * 2 ^ (i - min i (pl y)).toNat := Nat.mul_pos (by omega) (Nat.two_pow_pos _)
    have hn : (0 : Int) ≤ ((mg y * 2 ^ (pl y - min i (pl y)).toNat : Nat) : Int) := Int.natCast_nonneg _
    generalize m * 2 ^ (i - min i (pl y)).toNat = a at *
    generalize mg y * 2 ^ (pl y - min i (pl y)).toNat = b at *
    omega
  by_cases a1 : r < 2 ^ 52
  · rw [if_pos a1]; exact .inl (num _ _ (by omega))
  · rw [if_neg a1]
    by_cases a2 : r < 2047 * 2 ^ 52
    · rw [if_pos a2]; exact .inl (num _ _ (by omega))
    · rw [if_neg a2]
      by_cases a3 : r = 2047 * 2 ^ 52
      · rw [if_pos a3]; exact .inl rfl
      · rw [if_neg a3]; exact .inr rfl

/-- a weight that is not below 0 -/
theorem pos_of_order {w : Nat} (h : w < 2 ^ 64) (ho : (double.order w 0 == some .gt || double.order w 0 == some .eq) = true) : Pos w := by
  unfold Pos
  rcases read_split h with h1 | ⟨_, r, h3, rfl⟩
  · rcases Nat.lt_or_ge (2047 * 2 ^ 52) w with h4 | h4
    · rw [order_nan h4 h1] at ho; cases ho
    · exact .inl h4
  · right
    rcases Nat.eq_zero_or_pos r with rfl | hr
    · rfl
    · rcases order_neg (y := 0) hr h3 (by decide) with e | e <;> rw [e] at ho <;> cases ho

/-- a mean that equals a count's float -/
theorem eq_of_order {v F : Nat} (h : v < 2 ^ 64) (hF : F < 2047 * 2 ^ 52) (ho : double.order v F = some .eq) : v = F ∨ (v = 2 ^ 63 ∧ F = 0) := by
  rcases read_split h with h1 | ⟨_, r, h3, rfl⟩
  · rcases Nat.lt_or_ge (2047 * 2 ^ 52) v with h4 | h4
    · rw [order_nan h4 h1] at ho; cases ho
    · rw [order_pos h4 (Nat.le_of_lt hF)] at ho
      exact .inl (Nat.compare_eq_eq.1 (Option.some.inj ho))
  · right
    rcases Nat.eq_zero_or_pos r with rfl | hr
    · refine ⟨rfl, ?_⟩
      rcases Nat.eq_zero_or_pos F with rfl | hp
      · rfl
      · exfalso
        unfold Format.order at ho
        rw [show double.read (2 ^ 63 + 0) = .number true 0 (-1074) by decide +kernel, read_fin hF] at ho
        have nz : mg F ≠ 0 := by
          intro h0
          have := rung_mg hF
          rw [h0] at this
          have e0 : rung 0 (pl F) = 0 := rung_zero _
          omega
        unfold Datum.order signed at ho
        simp only [if_true, Bool.false_eq_true, if_false, Nat.shiftLeft_eq, Nat.zero_mul] at ho
        have hp : 0 < mg F * 2 ^ (pl F - min (-1074) (pl F)).toNat := Nat.mul_pos (by omega) (Nat.two_pow_pos _)
        generalize mg F * 2 ^ (pl F - min (-1074) (pl F)).toNat = a at *
        have := Int.compare_eq_eq.1 (Option.some.inj ho)
        omega
    · rcases order_neg (y := F) hr h3 hF with e | e <;> rw [e] at ho <;> cases ho

end Go.Proofs.Qxb6602616a.Fl
