/-
  Plain laws on double words that are zero or more: the rung nearest to a number does not fall when the number grows; order, sum, product and quotient of such words. No Go here.
-/
import Derived.Laws.FloatBits
namespace Go.Proofs.Qxb6602616a.Fl
open Ieee

/-- n / g to the nearest whole number, ties to even. -/
def rne (n g : Nat) : Nat := n / g + (decide (g < 2 * (n % g)) || (g == 2 * (n % g) && (n / g) % 2 == 1)).toNat

theorem rne_small {n g : Nat} (h : 2 * n < g) : rne n g = 0 := by
  unfold rne
  have h1 : n < g := by omega
  rw [Nat.div_eq_of_lt h1, Nat.mod_eq_of_lt h1]
  have h2 : ¬ g < 2 * n := by omega
  have h3 : ¬ g = 2 * n := by omega
  simp [h2]

theorem cut_even (neg : Bool) (n drop : Nat) : Toward.even.cut neg n drop = rne n (2 ^ drop) := by
  have hl : n < 2 ^ (n.log2 + 1) := Nat.lt_log2_self
  have e2 : 2 ^ (n.log2 + 2) = 2 * 2 ^ (n.log2 + 1) := by rw [Nat.pow_succ, Nat.mul_comm]
  unfold Toward.cut
  simp only [Nat.one_shiftLeft]
  by_cases h : drop ≤ n.log2 + 2
  · rw [Nat.min_eq_left h]; rfl
  · have hlt : n.log2 + 2 ≤ drop := by omega
    rw [Nat.min_eq_right hlt]
    have hp : 2 ^ (n.log2 + 2) ≤ 2 ^ drop := Nat.pow_le_pow_right (by omega) hlt
    have a := rne_small (n := n) (g := 2 ^ (n.log2 + 2)) (by omega)
    have b := rne_small (n := n) (g := 2 ^ drop) (by omega)
    rw [b, ← a]; rfl

theorem rne_le_succ (n g : Nat) : rne n g ≤ n / g + 1 := by
  unfold rne
  have := Bool.toNat_le (decide (g < 2 * (n % g)) || (g == 2 * (n % g) && (n / g) % 2 == 1))
  omega

theorem div_le_rne (n g : Nat) : n / g ≤ rne n g := by unfold rne; omega

theorem rne_mono {n m g : Nat} (h : n ≤ m) : rne n g ≤ rne m g := by
  have hd : n / g ≤ m / g := Nat.div_le_div_right h
  by_cases hq : n / g < m / g
  · have := rne_le_succ n g
    have := div_le_rne m g
    omega
  · have he : n / g = m / g := by omega
    have h1 := Nat.div_add_mod n g
    have h2 := Nat.div_add_mod m g
    rw [he] at h1
    have hr : n % g ≤ m % g := by omega
    unfold rne
    rw [he]
    generalize m / g = q at *
    generalize n % g = r at *
    generalize m % g = t at *
    by_cases c1 : g < 2 * r
    · have c2 : g < 2 * t := by omega
      simp [c1, c2]
    · by_cases c2 : g < 2 * t
      · have := Bool.toNat_le (decide (g < 2 * r) || (g == 2 * r && q % 2 == 1))
        simp [c2]
        omega
      · by_cases c3 : g = 2 * r
        · have c4 : r = t := by omega
          subst c4; omega
        · have : (g == 2 * r) = false := by simpa using c3
          simp [c1, this]

theorem rne_scale (n g : Nat) {k : Nat} (hk : 0 < k) : rne (n * k) (g * k) = rne n g := by
  unfold rne
  rw [Nat.mul_div_mul_right _ _ hk, Nat.mul_mod_mul_right]
  have e1 : decide (g * k < 2 * (n % g * k)) = decide (g < 2 * (n % g)) := by
    rw [← Nat.mul_assoc]; simp [Nat.mul_lt_mul_right hk]
  have e2 : (g * k == 2 * (n % g * k)) = (g == 2 * (n % g)) := by
    rw [← Nat.mul_assoc, Bool.eq_iff_iff]; simp [Nat.mul_left_inj (Nat.ne_of_gt hk)]
  rw [e1, e2]

theorem rne_exact (n : Nat) {g : Nat} (hg : 0 < g) : rne (n * g) g = n := by
  unfold rne
  rw [Nat.mul_div_cancel _ hg, Nat.mul_mod_left]
  have : ¬ g = 0 := by omega
  simp [this]

/-- The last place that is kept. -/
def lastOf (N : Nat) (B : Int) : Int := max (B + N.log2 - 52) (-1074)

def kept (N : Nat) (B : Int) : Nat := rne (N * 2 ^ (B - lastOf N B).toNat) (2 ^ (lastOf N B - B).toNat)

/-- The rung of the double nearest to N * 2 ^ B. -/
def rung (N : Nat) (B : Int) : Nat :=
  if N = 0 then 0 else min ((lastOf N B + 1074).toNat * 2 ^ 52 + kept N B) (2047 * 2 ^ 52)

theorem nearest_eq (s : Bool) (N : Nat) (B : Int) : double.nearest s N B = double.word s (rung N B) := by
  unfold Format.nearest rung
  by_cases h : N = 0
  · simp [h]
  · simp only [h, if_false]
    have hl : double.leastPlace = -1074 := by decide
    have hb : double.binade = 2 ^ 52 := rfl
    have hi : double.infRung = 2047 * 2 ^ 52 := by decide +kernel
    have hf : (double.fractionBits : Int) = 52 := rfl
    rw [hl, hb, hi, hf]
    unfold kept lastOf
    rw [cut_even, Nat.shiftLeft_eq]
    rfl

theorem rung_le (N : Nat) (B : Int) : rung N B ≤ 2047 * 2 ^ 52 := by
  unfold rung; split
  · exact Nat.zero_le _
  · exact Nat.min_le_right _ _

theorem log2_shift (N k : Nat) (h : N ≠ 0) : (N * 2 ^ k).log2 = N.log2 + k := by
  have hp : 0 < 2 ^ k := Nat.two_pow_pos k
  have hne : N * 2 ^ k ≠ 0 := by
    intro h0
    rcases Nat.mul_eq_zero.1 h0 with h1 | h1 <;> omega
  rw [Nat.log2_eq_iff hne]
  constructor
  · rw [Nat.pow_add]; exact Nat.mul_le_mul_right _ (Nat.log2_self_le h)
  · have : N < 2 ^ (N.log2 + 1) := Nat.lt_log2_self
    rw [show N.log2 + k + 1 = (N.log2 + 1) + k by omega, Nat.pow_add]
    exact Nat.mul_lt_mul_of_pos_right this hp

theorem lastOf_scale (N k : Nat) (B : Int) (h : N ≠ 0) : lastOf (N * 2 ^ k) B = lastOf N (B + k) := by
  unfold lastOf; rw [log2_shift N k h]; congr 1; omega

theorem kept_scale (N k : Nat) (B : Int) (h : N ≠ 0) : kept (N * 2 ^ k) B = kept N (B + k) := by
  unfold kept
  rw [lastOf_scale N k B h]
  generalize lastOf N (B + k) = L
  -- both are (N * 2^(B + k)) / 2 ^ L
  by_cases h1 : L ≤ B
  · have e1 : (L - B).toNat = 0 := by omega
    have e2 : (L - (B + k)).toNat = 0 := by omega
    have e3 : (B + k - L).toNat = k + (B - L).toNat := by omega
    rw [e1, e2, e3, Nat.pow_add, Nat.mul_assoc]
  · by_cases h2 : L ≤ B + k
    · have e1 : (B - L).toNat = 0 := by omega
      have e2 : (L - (B + k)).toNat = 0 := by omega
      have e3 : k = (B + k - L).toNat + (L - B).toNat := by omega
      rw [e1, e2]
      generalize (B + k - L).toNat = u at *
      generalize (L - B).toNat = v at *
      rw [e3, Nat.pow_add, ← Nat.mul_assoc]
      have := rne_scale (N * 2 ^ u) 1 (k := 2 ^ v) (Nat.two_pow_pos v)
      rw [Nat.one_mul] at this
      rw [Nat.pow_zero, Nat.mul_one, this]
    · have e1 : (B - L).toNat = 0 := by omega
      have e2 : (B + k - L).toNat = 0 := by omega
      have e3 : (L - B).toNat = (L - (B + k)).toNat + k := by omega
      rw [e1, e2, e3, Nat.pow_add, Nat.pow_zero, Nat.mul_one, Nat.mul_one]
      exact rne_scale N _ (Nat.two_pow_pos k)

theorem rung_scale (N k : Nat) (B : Int) : rung (N * 2 ^ k) B = rung N (B + k) := by
  unfold rung
  by_cases h : N = 0
  · simp [h]
  · have hne : N * 2 ^ k ≠ 0 := by
      intro h0
      have hp : 0 < 2 ^ k := Nat.two_pow_pos k
      rcases Nat.mul_eq_zero.1 h0 with h1 | h1 <;> omega
    simp only [h, hne, if_false]
    rw [lastOf_scale N k B h, kept_scale N k B h]

theorem kept_hi (N : Nat) (B : Int) : kept N B ≤ 2 ^ 53 := by
  have hl : N < 2 ^ (N.log2 + 1) := Nat.lt_log2_self
  have hL : B + N.log2 - 52 ≤ lastOf N B := by unfold lastOf; omega
  unfold kept
  generalize lastOf N B = L at *
  generalize ha : (B - L).toNat = a
  generalize hb : (L - B).toNat = b
  have hab : N.log2 + 1 + a ≤ 53 + b := by omega
  have h1 : N * 2 ^ a ≤ 2 ^ 53 * 2 ^ b := by
    calc N * 2 ^ a ≤ 2 ^ (N.log2 + 1) * 2 ^ a := Nat.mul_le_mul_right _ (Nat.le_of_lt hl)
      _ = 2 ^ (N.log2 + 1 + a) := (Nat.pow_add ..).symm
      _ ≤ 2 ^ (53 + b) := Nat.pow_le_pow_right (by omega) hab
      _ = 2 ^ 53 * 2 ^ b := Nat.pow_add ..
  calc rne (N * 2 ^ a) (2 ^ b) ≤ rne (2 ^ 53 * 2 ^ b) (2 ^ b) := rne_mono h1
    _ = 2 ^ 53 := rne_exact _ (Nat.two_pow_pos b)

theorem kept_lo (N : Nat) (B : Int) (h : N ≠ 0) (hL : lastOf N B = B + N.log2 - 52) : 2 ^ 52 ≤ kept N B := by
  have hl : 2 ^ N.log2 ≤ N := Nat.log2_self_le h
  unfold kept
  rw [hL]
  generalize ha : (B - (B + N.log2 - 52)).toNat = a
  generalize hb : (B + N.log2 - 52 - B).toNat = b
  have hab : N.log2 + a = 52 + b := by omega
  have h1 : 2 ^ 52 * 2 ^ b ≤ N * 2 ^ a := by
    calc 2 ^ 52 * 2 ^ b = 2 ^ (52 + b) := (Nat.pow_add ..).symm
      _ = 2 ^ (N.log2 + a) := by rw [hab]
      _ = 2 ^ N.log2 * 2 ^ a := Nat.pow_add ..
      _ ≤ N * 2 ^ a := Nat.mul_le_mul_right _ hl
  calc 2 ^ 52 = rne (2 ^ 52 * 2 ^ b) (2 ^ b) := (rne_exact _ (Nat.two_pow_pos b)).symm
    _ ≤ rne (N * 2 ^ a) (2 ^ b) := rne_mono h1

theorem rung_mono {N M : Nat} (B : Int) (h : N ≤ M) : rung N B ≤ rung M B := by
  by_cases hN : N = 0
  · unfold rung; simp [hN]
  have hM : M ≠ 0 := by omega
  have hlog : N.log2 ≤ M.log2 := by
    rw [Nat.le_log2 hM]
    exact Nat.le_trans (Nat.log2_self_le hN) h
  unfold rung
  simp only [hN, hM, if_false]
  refine Nat.le_min.2 ⟨Nat.le_trans (Nat.min_le_left _ _) ?_, Nat.min_le_right _ _⟩
  by_cases hs : lastOf N B = lastOf M B
  · rw [hs]
    have : kept N B ≤ kept M B := by
      unfold kept; rw [hs]
      exact rne_mono (Nat.mul_le_mul_right _ h)
    omega
  · have hlt : lastOf N B < lastOf M B := by unfold lastOf at *; omega
    have hge : -1074 ≤ lastOf N B := by unfold lastOf; omega
    have hM2 : lastOf M B = B + M.log2 - 52 := by unfold lastOf at *; omega
    have k1 := kept_hi N B
    have k2 := kept_lo M B hM hM2
    generalize lastOf N B = x at *
    generalize lastOf M B = y at *
    generalize kept N B = u at *
    generalize kept M B = v at *
    omega

/-- The magnitude and the place of a finite word that is zero or more. -/
def mg (x : Nat) : Nat := if x < 2 ^ 52 then x else 2 ^ 52 + x % 2 ^ 52
def pl (x : Nat) : Int := if x < 2 ^ 52 then -1074 else -1074 + ((x / 2 ^ 52 - 1 : Nat) : Int)

theorem consts : double.leastPlace = -1074 ∧ double.binade = 2 ^ 52 ∧ double.infRung = 2047 * 2 ^ 52 ∧ double.signWeight = 2 ^ 63 := by
  refine ⟨by decide, rfl, by decide +kernel, rfl⟩

theorem read_fin {x : Nat} (h : x < 2047 * 2 ^ 52) : double.read x = .number false (mg x) (pl x) := by
  obtain ⟨c1, c2, c3, c4⟩ := consts
  unfold Format.read
  rw [c1, c2, c3, c4]
  have e1 : x / 2 ^ 63 = 0 := Nat.div_eq_of_lt (by omega)
  have e2 : x % 2 ^ 63 = x := Nat.mod_eq_of_lt (by omega)
  rw [e1, e2]
  unfold mg pl
  by_cases hs : x < 2 ^ 52
  · simp [hs]
  · simp only [hs, h, if_true, if_false]; rfl

theorem read_inf : double.read (2047 * 2 ^ 52) = .infinity false := by decide +kernel

theorem pl_ge (x : Nat) : -1074 ≤ pl x := by unfold pl; split <;> omega

theorem rung_mg {x : Nat} (h : x < 2047 * 2 ^ 52) : rung (mg x) (pl x) = x := by
  unfold mg pl
  by_cases hs : x < 2 ^ 52
  · simp only [hs, if_true]
    unfold rung
    by_cases h0 : x = 0
    · simp [h0]
    · simp only [h0, if_false]
      have hl : x.log2 < 52 := (Nat.log2_lt h0).2 hs
      have hL : lastOf x (-1074) = -1074 := by unfold lastOf; omega
      have hk : kept x (-1074) = x := by
        unfold kept
        rw [hL]
        simpa using rne_exact x (g := 1) (by omega)
      rw [hL, hk]
      omega
  · simp only [hs, if_false]
    have hm : x % 2 ^ 52 < 2 ^ 52 := Nat.mod_lt _ (Nat.two_pow_pos _)
    have hd := Nat.div_add_mod x (2 ^ 52)
    have hq : 1 ≤ x / 2 ^ 52 := by omega
    generalize hf : x % 2 ^ 52 = f at *
    generalize he : x / 2 ^ 52 = e at *
    have hne : 2 ^ 52 + f ≠ 0 := by omega
    have hlog : (2 ^ 52 + f).log2 = 52 := by
      rw [Nat.log2_eq_iff hne]; omega
    unfold rung
    simp only [hne, if_false]
    have hL : lastOf (2 ^ 52 + f) (-1074 + ((e - 1 : Nat) : Int)) = -1074 + ((e - 1 : Nat) : Int) := by unfold lastOf; rw [hlog]; omega
    have hk : kept (2 ^ 52 + f) (-1074 + ((e - 1 : Nat) : Int)) = 2 ^ 52 + f := by
      unfold kept
      rw [hL]
      simpa using rne_exact (2 ^ 52 + f) (g := 1) (by omega)
    rw [hL, hk]
    omega

/-- The magnitude at the least place. -/
def V (x : Nat) : Nat := mg x * 2 ^ (pl x + 1074).toNat

theorem rung_V {x : Nat} (h : x < 2047 * 2 ^ 52) : rung (V x) (-1074) = x := by
  unfold V
  rw [rung_scale]
  have := pl_ge x
  rw [show (-1074 + (((pl x + 1074).toNat : Nat) : Int)) = pl x by omega]
  exact rung_mg h

theorem V_le {x y : Nat} (hx : x < 2047 * 2 ^ 52) (hy : y < 2047 * 2 ^ 52) : V x ≤ V y ↔ x ≤ y := by
  constructor
  · intro h
    have := rung_mono (-1074) h
    rwa [rung_V hx, rung_V hy] at this
  · intro h
    rcases Nat.lt_or_ge (V y) (V x) with hlt | hge
    · have := rung_mono (-1074) (Nat.le_of_lt hlt)
      rw [rung_V hx, rung_V hy] at this
      have : x = y := by omega
      subst this; omega
    · exact hge

/-- Both at the lesser of two places, then at the least. -/
theorem V_at (x : Nat) (b : Int) (hb : b ≤ pl x) (hb2 : -1074 ≤ b) : V x = mg x * 2 ^ (pl x - b).toNat * 2 ^ (b + 1074).toNat := by
  unfold V
  rw [Nat.mul_assoc, ← Nat.pow_add]
  congr 2; omega

theorem cmp_mul (a b k : Nat) (hk : 0 < k) : compare (a * k) (b * k) = compare a b := by
  rcases Nat.lt_trichotomy a b with h | h | h
  · rw [Nat.compare_eq_lt.2 h, Nat.compare_eq_lt.2 (Nat.mul_lt_mul_of_pos_right h hk)]
  · subst h; rw [Nat.compare_eq_eq.2 rfl, Nat.compare_eq_eq.2 rfl]
  · rw [Nat.compare_eq_gt.2 h, Nat.compare_eq_gt.2 (Nat.mul_lt_mul_of_pos_right h hk)]

theorem cmp_V {x y : Nat} (hx : x < 2047 * 2 ^ 52) (hy : y < 2047 * 2 ^ 52) : compare (V x) (V y) = compare x y := by
  have h1 := V_le hx hy
  have h2 := V_le hy hx
  rcases Nat.lt_trichotomy x y with h | h | h
  · rw [Nat.compare_eq_lt.2 h, Nat.compare_eq_lt.2 (by omega)]
  · subst h; rw [Nat.compare_eq_eq.2 rfl, Nat.compare_eq_eq.2 rfl]
  · rw [Nat.compare_eq_gt.2 h, Nat.compare_eq_gt.2 (by omega)]

theorem cmp_cast (a b : Nat) : compare (a : Int) (b : Int) = compare a b := by
  rcases Nat.lt_trichotomy a b with h | h | h
  · rw [Nat.compare_eq_lt.2 h, Int.compare_eq_lt.2 (by omega)]
  · subst h; rw [Nat.compare_eq_eq.2 rfl, Int.compare_eq_eq.2 rfl]
  · rw [Nat.compare_eq_gt.2 h, Int.compare_eq_gt.2 (by omega)]

theorem order_fin {x y : Nat} (hx : x < 2047 * 2 ^ 52) (hy : y < 2047 * 2 ^ 52) : double.order x y = some (compare x y) := by
  unfold Format.order
  rw [read_fin hx, read_fin hy]
  unfold Datum.order signed
  simp only [Bool.false_eq_true, if_false]
  have px := pl_ge x
  have py := pl_ge y
  rw [cmp_cast, Nat.shiftLeft_eq, Nat.shiftLeft_eq, ← cmp_mul _ _ (2 ^ (min (pl x) (pl y) + 1074).toNat) (Nat.two_pow_pos _), ← V_at x _ (by omega) (by omega), ← V_at y _ (by omega) (by omega), cmp_V hx hy]

theorem order_pos {x y : Nat} (hx : x ≤ 2047 * 2 ^ 52) (hy : y ≤ 2047 * 2 ^ 52) : double.order x y = some (compare x y) := by
  rcases Nat.lt_or_eq_of_le hx with h1 | h1
  · rcases Nat.lt_or_eq_of_le hy with h2 | h2
    · exact order_fin h1 h2
    · subst h2
      unfold Format.order
      rw [read_fin h1, read_inf, Nat.compare_eq_lt.2 h1]; rfl
  · subst h1
    rcases Nat.lt_or_eq_of_le hy with h2 | h2
    · unfold Format.order
      rw [read_fin h2, read_inf, Nat.compare_eq_gt.2 h2]; rfl
    · subst h2
      unfold Format.order
      rw [read_inf, Nat.compare_eq_eq.2 rfl]; rfl

theorem add_fin {x y : Nat} (hx : x < 2047 * 2 ^ 52) (hy : y < 2047 * 2 ^ 52) : double.add x y = some (rung (V x + V y) (-1074)) := by
  unfold Format.add
  rw [read_fin hx, read_fin hy]
  unfold Datum.sum signed
  simp only [Bool.false_eq_true, if_false]
  have px := pl_ge x
  have py := pl_ge y
  rw [V_at x (min (pl x) (pl y)) (by omega) (by omega), V_at y (min (pl x) (pl y)) (by omega) (by omega), ← Nat.add_mul, rung_scale, Nat.shiftLeft_eq, Nat.shiftLeft_eq]
  generalize mg x * 2 ^ (pl x - min (pl x) (pl y)).toNat = a
  generalize mg y * 2 ^ (pl y - min (pl x) (pl y)).toNat = b
  have hB : -1074 ≤ min (pl x) (pl y) := by omega
  generalize min (pl x) (pl y) = B at *
  have e1 : ((a : Int) + (b : Int)).natAbs = a + b := by omega
  have e2 : (-1074 + (((B + 1074).toNat : Nat) : Int)) = B := by omega
  have e3 : ((a : Int) + (b : Int) < 0) ↔ False := iff_false_intro (by omega)
  simp only [e1, e2, e3, decide_false, Bool.false_and, ite_self, Option.map_some, Format.write, nearest_eq, Format.word, Bool.false_eq_true, if_false]

theorem mul_fin {x y : Nat} (hx : x < 2047 * 2 ^ 52) (hy : y < 2047 * 2 ^ 52) : double.mul x y = some (rung (V x * V y) (-2148)) := by
  unfold Format.mul
  rw [read_fin hx, read_fin hy]
  unfold Datum.product
  simp only [show (false ^^ false) = false from rfl, Option.map_some, Format.write, nearest_eq, Format.word, Bool.false_eq_true, if_false]
  have px := pl_ge x
  have py := pl_ge y
  have e : V x * V y = mg x * mg y * 2 ^ (pl x + pl y + 2148).toNat := by
    unfold V
    rw [show (pl x + pl y + 2148).toNat = (pl x + 1074).toNat + (pl y + 1074).toNat by omega, Nat.pow_add]
    simp only [Nat.mul_assoc, Nat.mul_left_comm]
  rw [e, rung_scale]
  rw [show (-2148 + (((pl x + pl y + 2148).toNat : Nat) : Int)) = pl x + pl y by omega]

theorem rung_pos {N : Nat} {B : Int} (h : N ≠ 0) (hB : -1074 ≤ B) : 0 < rung N B := by
  have e : rung N B = rung (N * 2 ^ (B + 1074).toNat) (-1074) := by
    rw [rung_scale]; congr 1; omega
  have h1 : 1 ≤ N * 2 ^ (B + 1074).toNat := by
    have := Nat.two_pow_pos (B + 1074).toNat
    exact Nat.mul_pos (by omega) this
  have := rung_mono (-1074) h1
  have e1 : rung 1 (-1074) = 1 := by decide +kernel
  omega

end Go.Proofs.Qxb6602616a.Fl
