import Derived.Test.Qxb6602709aW2
namespace Go.Proofs.Qxb6602709a
open Go.RowKit Kit
set_option linter.unusedVariables false

theorem wrap_step {v c : Int} (h0 : 0 ≤ v) (h1 : 48 ≤ c) (h2 : c ≤ 57) (h : 10 * v + (c - 48) ≤ 9223372036854775808) : wrap64 (wrap64 (10 * -v) - (c - 48)) = -(10 * v + (c - 48)) := by
  unfold wrap64; omega

theorem wrap_neg {v : Int} (h0 : 0 ≤ v) (h : v < 9223372036854775808) : wrap64 v = v := by
  unfold wrap64; omega

theorem tup {a b : Int} {x y : Bool} (h : (a, x) = (b, y)) : Ending.returned (.tuple #[.int .i64 a, .bool x]) = .returned (.tuple #[.int .i64 b, .bool y]) := by
  cases h; rfl

theorem tupr {r : Int × Bool} {a : Int} {x : Bool} (h : r = (a, x)) : Ending.returned (.tuple #[.int .i64 a, .bool x]) = .returned (.tuple #[.int .i64 r.1, .bool r.2]) := by
  subst h; rfl

set_option maxHeartbeats 1000000 in
theorem int_pos (B len cap : Nat) (f : Nat → Int) (w : World) (hlen : 3 ≤ len) (hle : len ≤ cap) (hmax : len ≤ 1048576)
    (hc : ∀ i, i < len → w.cell? ⟨B, i, none⟩ = some (.int .u8 (f i))) (h105 : f 0 = 105) (hneg : (f 1 == 45) = false) (hd : Pl.Dig f 1 (len - 2)) :
    Calls Try.prog 8 #[.agg #[.slice (some ⟨B, 0, none⟩) len cap]] w fun e w' => e = .returned (.tuple #[.int .i64 (Pl.res false (Pl.V f 1 (len - 2))).1, .bool (Pl.res false (Pl.V f 1 (len - 2))).2]) ∧ Below w.heap.size w w' := by
  obtain ⟨m, rfl⟩ : ∃ m, len = m + 2 := ⟨len - 2, by omega⟩
  rw [show m + 2 - 2 = m by omega] at *
  have hc' : ∀ o i, i < m + 2 → (w.alloc o).cell? ⟨B, i, none⟩ = some (.int .u8 (f i)) := fun o i hi => cell_later ((Below.refl _ _).alloc (Nat.le_refl _) _) (hc i hi)
  have hk : (w.alloc (.cells #[.slice (some ⟨B, 0, none⟩) (m + 2) cap] 26)).cell? ⟨B, 0, none⟩ = some (.int .u8 105) := by rw [← h105]; exact hc' _ 0 (by omega)
  have HC := hid hc'
  have HK := hid hk
  have hB := World.block_lt_of_cell? _ _ (hc 0 (by omega))
  have hc1 := hc 1 (by omega)
  have HCC := hid hc
  clear hc' hk hc
  go_enter Try.func8, Try.ntmps8
  go_wp2_with (go_at_call 12; refine (kind_int _ _ _ _ (by omega) HK.out).mono ?_; rintro e w' ⟨rfl, rfl⟩)
  have hd' := hid hd
  clear hd
  go_loop [6, 29] (fun n i => ∃ k : Nat, k ≤ m ∧ i = .int .i64 k ∧ n = .int .i64 (-(Pl.V f 1 k)) ∧ Pl.V f 1 k ≤ 9223372036854775808) (fun _ i => m - (intOf i).toNat)
  case atStart => exact ⟨0, Nat.zero_le _, rfl, rfl, by simp [Pl.V]⟩
  case round =>
    obtain ⟨k, hk, rfl, rfl, hV⟩ := hrel
    by_cases hlt : k < m
    · have hcell := HCC.out (1 + k) (by omega)
      obtain ⟨x1, x2⟩ := hd'.out k hlt
      have hV0 := Pl.V_nonneg hd'.out k hk
      have HVS : Hid (Pl.V f 1 (k + 1) = 10 * Pl.V f 1 k + (f (1 + k) - 48)) := rfl
      generalize f (1 + k) = c at *
      generalize Pl.V f 1 k = v at *
      have hlast := Pl.V_le hd'.out (show k + 1 ≤ m by omega)
      have HL := hid hlast
      clear hlast
      go_wp2
      · have ht : -v < (-9223372036854775808 + (c - 48)).tdiv 10 := by assumption
        go_ret2
        have h1 := Pl.test_yes (by omega) (by omega) ht
        have h2 := HVS.out
        have h3 := HL.out
        exact ⟨tupr (Pl.res_over (by omega)), ((Below.refl _ _).alloc (Nat.le_refl _) _).alloc (by simp) _⟩
      · have ht : (-9223372036854775808 + (c - 48)).tdiv 10 ≤ -v := by assumption
        have h1 := Pl.test_no (v := v) (d := c - 48) (by omega) (by omega) (by omega)
        go_round
        case rel =>
          have h2 := HVS.out
          refine ⟨k + 1, by omega, by go_num, ?_, by omega⟩
          rw [h2, wrap_step hV0 x1 x2 h1]
        case measure => simp [intOf]; omega
    · obtain rfl : k = m := by omega
      have hV0 := Pl.V_nonneg hd'.out k (by omega)
      go_wp2
      · have ht : (-Pl.V f 1 k == -9223372036854775808) = true := by assumption
        go_ret2
        have hv : Pl.V f 1 k = 9223372036854775808 := by have := beq_iff_eq.1 ht; omega
        exact ⟨tupr (by rw [hv]; exact Pl.res_edge), ((Below.refl _ _).alloc (Nat.le_refl _) _).alloc (by simp) _⟩
      · have ht : (-Pl.V f 1 k == -9223372036854775808) = false := by assumption
        have hv : Pl.V f 1 k < 9223372036854775808 := by have := beq_eq_false_iff_ne.1 ht; omega
        go_ret2
        exact ⟨tupr (by rw [Pl.res_pos hv]; simp [wrap_neg hV0 hv]), ((Below.refl _ _).alloc (Nat.le_refl _) _).alloc (by simp) _⟩

set_option maxHeartbeats 1000000 in
theorem int_neg (B len cap : Nat) (f : Nat → Int) (w : World) (hlen : 4 ≤ len) (hle : len ≤ cap) (hmax : len ≤ 1048576)
    (hc : ∀ i, i < len → w.cell? ⟨B, i, none⟩ = some (.int .u8 (f i))) (h105 : f 0 = 105) (hneg : (f 1 == 45) = true) (hd : Pl.Dig f 2 (len - 3)) :
    Calls Try.prog 8 #[.agg #[.slice (some ⟨B, 0, none⟩) len cap]] w fun e w' => e = .returned (.tuple #[.int .i64 (Pl.res true (Pl.V f 2 (len - 3))).1, .bool (Pl.res true (Pl.V f 2 (len - 3))).2]) ∧ Below w.heap.size w w' := by
  obtain ⟨m, rfl⟩ : ∃ m, len = m + 3 := ⟨len - 3, by omega⟩
  rw [show m + 3 - 3 = m by omega] at *
  have hc' : ∀ o i, i < m + 3 → (w.alloc o).cell? ⟨B, i, none⟩ = some (.int .u8 (f i)) := fun o i hi => cell_later ((Below.refl _ _).alloc (Nat.le_refl _) _) (hc i hi)
  have hk : (w.alloc (.cells #[.slice (some ⟨B, 0, none⟩) (m + 3) cap] 26)).cell? ⟨B, 0, none⟩ = some (.int .u8 105) := by rw [← h105]; exact hc' _ 0 (by omega)
  have HC := hid hc'
  have HK := hid hk
  have hB := World.block_lt_of_cell? _ _ (hc 0 (by omega))
  have hc1 := hc 1 (by omega)
  have HCC := hid hc
  clear hc' hk hc
  go_enter Try.func8, Try.ntmps8
  go_wp2_with (go_at_call 12; refine (kind_int _ _ _ _ (by omega) HK.out).mono ?_; rintro e w' ⟨rfl, rfl⟩)
  have hd' := hid hd
  clear hd
  go_loop [6, 29] (fun n i => ∃ k : Nat, k ≤ m ∧ i = .int .i64 k ∧ n = .int .i64 (-(Pl.V f 2 k)) ∧ Pl.V f 2 k ≤ 9223372036854775808) (fun _ i => m - (intOf i).toNat)
  case atStart => exact ⟨0, Nat.zero_le _, rfl, rfl, by simp [Pl.V]⟩
  case round =>
    obtain ⟨k, hk, rfl, rfl, hV⟩ := hrel
    by_cases hlt : k < m
    · have hcell := HCC.out (2 + k) (by omega)
      obtain ⟨x1, x2⟩ := hd'.out k hlt
      have hV0 := Pl.V_nonneg hd'.out k hk
      have HVS : Hid (Pl.V f 2 (k + 1) = 10 * Pl.V f 2 k + (f (2 + k) - 48)) := rfl
      generalize f (2 + k) = c at *
      generalize Pl.V f 2 k = v at *
      have hlast := Pl.V_le hd'.out (show k + 1 ≤ m by omega)
      have HL := hid hlast
      clear hlast
      go_wp2
      · have ht : -v < (-9223372036854775808 + (c - 48)).tdiv 10 := by assumption
        go_ret2
        have h1 := Pl.test_yes (by omega) (by omega) ht
        have h2 := HVS.out
        have h3 := HL.out
        exact ⟨tupr (Pl.res_over (by omega)), ((Below.refl _ _).alloc (Nat.le_refl _) _).alloc (by simp) _⟩
      · have ht : (-9223372036854775808 + (c - 48)).tdiv 10 ≤ -v := by assumption
        have h1 := Pl.test_no (v := v) (d := c - 48) (by omega) (by omega) (by omega)
        go_round
        case rel =>
          have h2 := HVS.out
          refine ⟨k + 1, by omega, by go_num, ?_, by omega⟩
          rw [h2, wrap_step hV0 x1 x2 h1]
        case measure => simp [intOf]; omega
    · obtain rfl : k = m := by omega
      have hV0 := Pl.V_nonneg hd'.out k (by omega)
      go_wp2
      go_ret2
      exact ⟨tupr (by rw [Pl.res_neg hV]), ((Below.refl _ _).alloc (Nat.le_refl _) _).alloc (by simp) _⟩

end Go.Proofs.Qxb6602709a
