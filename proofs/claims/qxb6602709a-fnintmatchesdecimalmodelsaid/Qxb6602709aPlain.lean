/- Plain laws: decimal digits, upward. No Go here. -/
namespace Go.Proofs.Qxb6602709a.Pl

/-- The number that k bytes from place s on spell in decimal. -/
def V (f : Nat → Int) (s : Nat) : Nat → Int
  | 0 => 0
  | k + 1 => 10 * V f s k + (f (s + k) - 48)

def Dig (f : Nat → Int) (s n : Nat) : Prop := ∀ i, i < n → 48 ≤ f (s + i) ∧ f (s + i) ≤ 57

def res (neg : Bool) (v : Int) : Int × Bool :=
  if neg then (if v ≤ 9223372036854775808 then (-v, true) else (0, false)) else (if v < 9223372036854775808 then (v, true) else (0, false))

theorem V_nonneg {f : Nat → Int} {s n : Nat} (h : Dig f s n) : ∀ k, k ≤ n → 0 ≤ V f s k
  | 0, _ => by simp [V]
  | k + 1, hk => by
    have := V_nonneg h k (by omega)
    have := h k (by omega)
    simp only [V]; omega

theorem V_mono {f : Nat → Int} {s n : Nat} (h : Dig f s n) {k : Nat} (hk : k ≤ n) : ∀ m, k + m ≤ n → V f s k ≤ V f s (k + m)
  | 0, _ => by simp
  | m + 1, hm => by
    have i := V_mono h hk m (by omega)
    have := h (k + m) (by omega)
    have := V_nonneg h (k + m) (by omega)
    rw [show k + (m + 1) = (k + m) + 1 by omega]
    simp only [V]; omega

theorem V_le {f : Nat → Int} {s n k : Nat} (h : Dig f s n) (hk : k ≤ n) : V f s k ≤ V f s n := by
  have := V_mono h hk (n - k) (by omega)
  rwa [show k + (n - k) = n by omega] at this

/-- the test 'n < (-1<<63 + d) / 10' -/
theorem test_yes {v d : Int} (hd : 0 ≤ d) (hd2 : d ≤ 9) (h : -v < (-9223372036854775808 + d).tdiv 10) : 9223372036854775808 < 10 * v + d := by
  have e : (-9223372036854775808 + d).tdiv 10 = -((9223372036854775808 - d) / 10) := by
    rw [show -9223372036854775808 + d = -(9223372036854775808 - d) by omega, Int.neg_tdiv, Int.tdiv_eq_ediv_of_nonneg (by omega)]
  rw [e] at h
  omega

theorem test_no {v d : Int} (hd : 0 ≤ d) (hd2 : d ≤ 9) (h : ¬ -v < (-9223372036854775808 + d).tdiv 10) : 10 * v + d ≤ 9223372036854775808 := by
  have e : (-9223372036854775808 + d).tdiv 10 = -((9223372036854775808 - d) / 10) := by
    rw [show -9223372036854775808 + d = -(9223372036854775808 - d) by omega, Int.neg_tdiv, Int.tdiv_eq_ediv_of_nonneg (by omega)]
  rw [e] at h
  omega

theorem res_over {neg : Bool} {v : Int} (h : 9223372036854775808 < v) : res neg v = (0, false) := by
  unfold res
  cases neg
  · rw [if_neg (by decide), if_neg (by omega)]
  · rw [if_pos rfl, if_neg (by omega)]

theorem res_neg {v : Int} (h : v ≤ 9223372036854775808) : res true v = (-v, true) := by
  unfold res; rw [if_pos rfl, if_pos h]

theorem res_pos {v : Int} (h : v < 9223372036854775808) : res false v = (v, true) := by
  unfold res; rw [if_neg (by decide), if_pos h]

theorem res_edge : res false 9223372036854775808 = (0, false) := by decide

/-- leading zeros change nothing -/
theorem V_strip {f : Nat → Int} (s j : Nat) (h : ∀ i, i < j → f (s + i) = 48) : ∀ k, V f s (j + k) = V f (s + j) k
  | 0 => by
    simp only [Nat.add_zero, V]
    have z : ∀ m, m ≤ j → V f s m = 0 := by
      intro m
      induction m with
      | zero => intro _; rfl
      | succ m ih =>
        intro hm
        simp only [V]
        rw [ih (by omega), h m (by omega)]; rfl
    exact z j (by omega)
  | k + 1 => by
    rw [show j + (k + 1) = (j + k) + 1 by omega]
    simp only [V]
    rw [V_strip s j h k, Nat.add_assoc]

/-- so many digits: at most .. -/
theorem V_lt {f : Nat → Int} {s n : Nat} (h : Dig f s n) : ∀ k, k ≤ n → V f s k < 10 ^ k
  | 0, _ => by simp [V]
  | k + 1, hk => by
    have i := V_lt h k (by omega)
    have := h k (by omega)
    simp only [V, Int.pow_succ]; omega

/-- .. and, the first not nought, at least -/
theorem V_ge {f : Nat → Int} {s n : Nat} (h : Dig f s n) (h0 : f s ≠ 48) : ∀ k, k + 1 ≤ n → 10 ^ k ≤ V f s (k + 1)
  | 0, hk => by
    have := h 0 (by omega)
    simp only [V, Nat.add_zero, Int.pow_zero] at *; omega
  | k + 1, hk => by
    have i := V_ge h h0 k (by omega)
    have := h (k + 1) (by omega)
    have e : V f s (k + 1 + 1) = 10 * V f s (k + 1) + (f (s + (k + 1)) - 48) := rfl
    rw [e, Int.pow_succ]; omega

/-- the digits at j and before: told by the number up to there -/
theorem V_split {f g : Nat → Int} {s t n : Nat} {j : Nat} (hf : Dig f s n) (hg : Dig g t n) (hj : j < n) (he : ∀ i, i < j → f (s + i) = g (t + i)) (hlt : f (s + j) < g (t + j)) :
    ∀ k, j + 1 + k ≤ n → V f s (j + 1 + k) < V g t (j + 1 + k)
  | 0, _ => by
    have e : ∀ m, m ≤ j → V f s m = V g t m := by
      intro m
      induction m with
      | zero => intro _; rfl
      | succ m ih => intro hm; simp only [V]; rw [ih (by omega), he m (by omega)]
    have := e j (by omega)
    simp only [V]; omega
  | k + 1, hk => by
    have i := V_split hf hg hj he hlt k (by omega)
    have a := hf (j + 1 + k) (by omega)
    have b := hg (j + 1 + k) (by omega)
    rw [show j + 1 + (k + 1) = (j + 1 + k) + 1 by omega]
    simp only [V]; omega

theorem V_same {f g : Nat → Int} {s t : Nat} : ∀ n, (∀ i, i < n → f (s + i) = g (t + i)) → V f s n = V g t n
  | 0, _ => rfl
  | n + 1, h => by
    simp only [V]
    rw [V_same n (fun i hi => h i (by omega)), h n (by omega)]

theorem pow_cast (n : Nat) : (10 : Int) ^ n = ((10 ^ n : Nat) : Int) := by simp

theorem pow_le {a b : Nat} (h : a ≤ b) : (10 : Int) ^ a ≤ 10 ^ b := by
  rw [pow_cast, pow_cast]
  have := Nat.pow_le_pow_right (n := 10) (by omega) h
  omega

theorem V_bound {f : Nat → Int} {s n : Nat} (h : Dig f s n) (hn : n ≤ 19) {k : Nat} (hk : k ≤ n) : V f s k ≤ 9999999999999999999 := by
  have a := V_lt h k hk
  have b := pow_le (a := k) (b := 19) (by omega)
  rw [show (10 : Int) ^ 19 = 10000000000000000000 by decide] at b
  omega

theorem res_big {f : Nat → Int} {s n : Nat} (neg : Bool) (h : Dig f s n) (hn : 20 ≤ n) (h0 : f s ≠ 48) : res neg (V f s n) = (0, false) := by
  have a := V_ge h h0 (n - 1) (by omega)
  have b := pow_le (a := 19) (b := n - 1) (by omega)
  rw [show (10 : Int) ^ 19 = 10000000000000000000 by decide] at b
  rw [show n - 1 + 1 = n by omega] at a
  exact res_over (by omega)

/-- what the model hands back for a number that fits -/
def fits (neg : Bool) (v : Int) : Int := if neg then -v else v

theorem res_fits_neg {v : Int} (h : v ≤ 9223372036854775808) : res true v = (fits true v, true) := res_neg h
theorem res_fits_pos {v : Int} (h : v ≤ 9223372036854775807) : res false v = (fits false v, true) := res_pos (by omega)

theorem res_small {f : Nat → Int} {s n : Nat} (neg : Bool) (h : Dig f s n) (hn : n ≤ 18) : res neg (V f s n) = (fits neg (V f s n), true) := by
  have a := V_lt h n (by omega)
  have b := pow_le (a := n) (b := 18) hn
  rw [show (10 : Int) ^ 18 = 1000000000000000000 by decide] at b
  cases neg
  · exact res_fits_pos (by omega)
  · exact res_fits_neg (by omega)

def lim (neg : Bool) (i : Nat) : Int := ([57, 50, 50, 51, 51, 55, 50, 48, 51, 54, 56, 53, 52, 55, 55, 53, 56, 48, if neg then 56 else 55] : List Int).getD i 48

theorem lim_dig (neg : Bool) : Dig (lim neg) 0 19 := by
  cases neg <;> (unfold Dig; decide)

theorem lim_V_pos : V (lim false) 0 19 = 9223372036854775807 := by decide +kernel
theorem lim_V_neg : V (lim true) 0 19 = 9223372036854775808 := by decide +kernel

theorem res_above {f : Nat → Int} {s : Nat} (neg : Bool) (h : Dig f s 19) {j : Nat} (hj : j < 19) (he : ∀ i, i < j → f (s + i) = lim neg i) (hgt : lim neg j < f (s + j)) : res neg (V f s 19) = (0, false) := by
  have a := V_split (f := lim neg) (g := f) (s := 0) (t := s) (lim_dig neg) h hj (fun i hi => by rw [he i hi, Nat.zero_add]) (by rwa [Nat.zero_add]) (18 - j) (by omega)
  rw [show j + 1 + (18 - j) = 19 by omega] at a
  cases neg
  · rw [lim_V_pos] at a
    by_cases e : V f s 19 = 9223372036854775808
    · rw [e]; exact res_edge
    · exact res_over (by omega)
  · rw [lim_V_neg] at a
    exact res_over a

theorem res_below {f : Nat → Int} {s : Nat} (neg : Bool) (h : Dig f s 19) {j : Nat} (hj : j < 19) (he : ∀ i, i < j → f (s + i) = lim neg i) (hlt : f (s + j) < lim neg j) : res neg (V f s 19) = (fits neg (V f s 19), true) := by
  have a := V_split (f := f) (g := lim neg) (s := s) (t := 0) h (lim_dig neg) hj (fun i hi => by rw [he i hi, Nat.zero_add]) (by rwa [Nat.zero_add]) (18 - j) (by omega)
  rw [show j + 1 + (18 - j) = 19 by omega] at a
  cases neg
  · rw [lim_V_pos] at a; exact res_fits_pos (by omega)
  · rw [lim_V_neg] at a; exact res_fits_neg (by omega)

theorem res_same {f : Nat → Int} {s : Nat} (neg : Bool) (he : ∀ i, i < 19 → f (s + i) = lim neg i) : res neg (V f s 19) = (fits neg (V f s 19), true) := by
  have a := V_same (f := f) (g := lim neg) (s := s) (t := 0) 19 (fun i hi => by rw [he i hi, Nat.zero_add])
  cases neg
  · rw [lim_V_pos] at a; exact res_fits_pos (by omega)
  · rw [lim_V_neg] at a; exact res_fits_neg (by omega)

end Go.Proofs.Qxb6602709a.Pl
