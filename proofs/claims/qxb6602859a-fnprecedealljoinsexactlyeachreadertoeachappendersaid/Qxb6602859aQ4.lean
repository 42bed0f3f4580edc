import Derived.Test.Qxb6602859aQ2
namespace Go.Proofs.Qxb6602859a
open Go.RowKit Kit
set_option linter.unusedVariables false

/-- a node's slot -/
def slotN (n u : Nat) : Nat := if u < n then u else n

theorem slotN_le (n u : Nat) : slotN n u ≤ n := by unfold slotN; split <;> omega

set_option maxHeartbeats 400000 in
theorem zz23_any (n u : Nat) (w : World) (hu : u ≤ 2147483647) (hn : n ≤ 4096) :
    Calls Try.prog 23 #[.int .i32 (u : Int), .int .i64 (n : Int)] w fun e w' => e = .returned (.int .i64 ((slotN n u : Nat) : Int)) ∧ w' = w := by
  by_cases h : u < n
  · have q : decide ((u : Int) < (n : Int)) = true := by simp; omega
    have e : slotN n u = u := if_pos h
    have E := hid e
    clear e
    go_enter Try.func23, Try.ntmps23
    go_wp2
    go_ret
    exact ⟨by rw [E.out]; rfl, rfl⟩
  · have q : decide ((u : Int) < (n : Int)) = false := by simp; omega
    have e : slotN n u = n := if_neg h
    have E := hid e
    clear e
    go_enter Try.func23, Try.ntmps23
    go_wp2
    go_ret
    exact ⟨by rw [E.out]; rfl, rfl⟩

set_option maxHeartbeats 400000 in
theorem zz22_any (n u N : Nat) (C : Nat → Bool) (cv : Value) (v : Bool) (w : World) (hu : u ≤ 2147483647) (hN : N ≤ 2147483647) (hC : Row w 4 cv n (fun i => .bool (C i)))
    (h : (u < n ∧ C u = true) ∨ (n ≤ u ∧ v = true ∧ u = N)) :
    Calls Try.prog 22 #[.int .i32 (u : Int), cv, .int .i64 (N : Int), .bool v] w fun e w' => e = .returned (.bool true) ∧ w' = w := by
  obtain ⟨a, c, rfl, hc1, hc2, hcell⟩ := hC.parts
  rcases h with ⟨h1, h2⟩ | ⟨h1, rfl, rfl⟩
  · obtain ⟨g, rfl, ck⟩ := hcell u h1
    rw [h2] at ck
    have q0 : decide ((u : Int) < 0) = false := by simp
    have q : decide ((u : Int) < (n : Int)) = true := by simp; omega
    clear hC hcell
    go_enter Try.func22, Try.ntmps22
    go_wp2
    go_ret
    exact ⟨rfl, rfl⟩
  · have q0 : decide ((u : Int) < 0) = false := by simp
    have q : decide ((u : Int) < (n : Int)) = false := by simp; omega
    clear hC hcell
    go_enter Try.func22, Try.ntmps22
    go_wp2
    go_ret
    exact ⟨by simp, rfl⟩

/-- how many of the first k go out of x -/
def deg (su : Nat → Nat) : Nat → Nat → Nat
  | 0, _ => 0
  | k + 1, x => deg su k x + if su k = x then 1 else 0

def offs (d : Nat → Nat) : Nat → Nat
  | 0 => 0
  | x + 1 => offs d x + d x

theorem deg_mono (su : Nat → Nat) (x k k' : Nat) (h : k ≤ k') : deg su k x ≤ deg su k' x := by
  induction h with
  | refl => exact Nat.le_refl _
  | step _ ih => exact Nat.le_trans ih (Nat.le_add_right _ _)

theorem offs_mono (d : Nat → Nat) (x y : Nat) (h : x ≤ y) : offs d x ≤ offs d y := by
  induction h with
  | refl => exact Nat.le_refl _
  | step _ ih => exact Nat.le_trans ih (Nat.le_add_right _ _)

theorem offs_add (d d' : Nat → Nat) (x : Nat) : offs (fun y => d y + d' y) x = offs d x + offs d' x := by
  induction x with
  | zero => rfl
  | succ x ih => simp only [offs, ih]; omega

theorem offs_one (a : Nat) : ∀ x, offs (fun y => if a = y then 1 else 0) x = if a < x then 1 else 0
  | 0 => by simp [offs]
  | x + 1 => by
    simp only [offs, offs_one a x]
    by_cases h1 : a < x
    · rw [if_pos h1, if_neg (by omega), if_pos (by omega)]
    · by_cases h2 : a = x
      · rw [if_neg h1, if_pos h2, if_pos (by omega)]
      · rw [if_neg h1, if_neg h2, if_neg (by omega)]

theorem offs_total (su : Nat → Nat) (n : Nat) : ∀ m, (∀ j, j < m → su j ≤ n) → offs (deg su m) (n + 1) = m
  | 0, _ => by
    have : ∀ x, offs (deg su 0) x = 0 := by
      intro x
      induction x with
      | zero => rfl
      | succ x ih => show offs (deg su 0) x + deg su 0 x = 0; rw [ih]; rfl
    exact this _
  | m + 1, h => by
    have e : deg su (m + 1) = fun y => deg su m y + (if su m = y then 1 else 0) := rfl
    rw [e, offs_add, offs_total su n m (fun j hj => h j (by omega)), offs_one, if_pos (by have := h m (by omega); omega)]

/-- where edge j lands -/
def posn (su : Nat → Nat) (m j : Nat) : Nat := offs (deg su m) (su j) + deg su j (su j)

theorem deg_lt (su : Nat → Nat) {j k : Nat} (h : j < k) : deg su j (su j) < deg su k (su j) := by
  have h1 : deg su (j + 1) (su j) = deg su j (su j) + 1 := by simp [deg]
  have := deg_mono su (su j) (j + 1) k h
  omega

theorem posn_range (su : Nat → Nat) {m j : Nat} (h : j < m) : offs (deg su m) (su j) ≤ posn su m j ∧ posn su m j < offs (deg su m) (su j + 1) := by
  have := deg_lt su h
  unfold posn
  simp only [offs]
  omega

theorem posn_inj (su : Nat → Nat) {m i j : Nat} (hi : i < m) (hj : j < m) (h : posn su m i = posn su m j) : i = j := by
  obtain ⟨a1, a2⟩ := posn_range su hi
  obtain ⟨b1, b2⟩ := posn_range su hj
  have hs : su i = su j := by
    rcases Nat.lt_trichotomy (su i) (su j) with h1 | h1 | h1
    · have := offs_mono (deg su m) (su i + 1) (su j) h1; omega
    · exact h1
    · have := offs_mono (deg su m) (su j + 1) (su i) h1; omega
  unfold posn at h
  rw [hs] at h
  rcases Nat.lt_trichotomy i j with h1 | h1 | h1
  · have := deg_lt su h1; rw [hs] at this; omega
  · exact h1
  · have := deg_lt su h1; omega

/-- each place below the count is some edge's -/
theorem deg_hit (su : Nat → Nat) (x d : Nat) : ∀ m, d < deg su m x → ∃ j, j < m ∧ su j = x ∧ deg su j x = d
  | 0, h => by simp [deg] at h
  | m + 1, h => by
    by_cases h1 : d < deg su m x
    · obtain ⟨j, a, b⟩ := deg_hit su x d m h1
      exact ⟨j, by omega, b⟩
    · simp only [deg] at h
      by_cases h2 : su m = x
      · rw [if_pos h2] at h
        exact ⟨m, by omega, h2, by omega⟩
      · rw [if_neg h2] at h; omega

theorem posn_hit (su : Nat → Nat) {m x e : Nat} (h1 : offs (deg su m) x ≤ e) (h2 : e < offs (deg su m) (x + 1)) : ∃ j, j < m ∧ su j = x ∧ posn su m j = e := by
  simp only [offs] at h2
  obtain ⟨j, a, b, c⟩ := deg_hit su x (e - offs (deg su m) x) m (by omega)
  refine ⟨j, a, b, ?_⟩
  unfold posn
  rw [b, c]; omega

/-- the counting row -/
def cnt9 (su : Nat → Nat) (k : Nat) : Nat → Nat
  | 0 => 0
  | x + 1 => deg su k x

theorem cnt9_step (su : Nat → Nat) (k i : Nat) : (if i = su k + 1 then cnt9 su k (su k + 1) + 1 else cnt9 su k i) = cnt9 su (k + 1) i := by
  cases i with
  | zero => simp [cnt9]
  | succ x =>
    by_cases h : x = su k
    · subst h; simp [cnt9, deg]
    · rw [if_neg (by omega)]
      simp [cnt9, deg]
      exact fun e => absurd e.symm h

/-- the row while the sums run -/
def cnt10 (su : Nat → Nat) (m x y : Nat) : Nat := if y ≤ x then offs (deg su m) y else cnt9 su m y

theorem cnt10_zero (su : Nat → Nat) (m i : Nat) : cnt9 su m i = cnt10 su m 0 i := by
  unfold cnt10
  cases i with
  | zero => simp [cnt9, offs]
  | succ i => rw [if_neg (by omega)]

theorem cnt10_step (su : Nat → Nat) (m x i : Nat) : (if i = x + 1 then cnt10 su m x (x + 1) + cnt10 su m x x else cnt10 su m x i) = cnt10 su m (x + 1) i := by
  unfold cnt10
  by_cases h : i = x + 1
  · subst h
    rw [if_pos rfl, if_neg (by omega), if_pos (Nat.le_refl _), if_pos (Nat.le_refl _)]
    simp [offs, cnt9]; omega
  · rw [if_neg h]
    by_cases h2 : i ≤ x
    · rw [if_pos h2, if_pos (by omega)]
    · rw [if_neg h2, if_neg (by omega)]

/-- what the edges say and what the rows say -/
theorem sx_iff {su sv ad : Nat → Nat} {m : Nat} (had : ∀ j, j < m → ad (posn su m j) = sv j) (x y : Nat) : Sx (offs (deg su m)) ad x y ↔ ∃ j, j < m ∧ su j = x ∧ sv j = y := by
  constructor
  · rintro ⟨e, h1, h2, h3⟩
    obtain ⟨j, a, b, c⟩ := posn_hit su h1 h2
    exact ⟨j, a, b, by rw [← had j a, c]; exact h3⟩
  · rintro ⟨j, a, b, c⟩
    obtain ⟨h1, h2⟩ := posn_range su a
    rw [b] at h1 h2
    exact ⟨_, h1, h2, by rw [had j a]; exact c⟩

end Go.Proofs.Qxb6602859a
