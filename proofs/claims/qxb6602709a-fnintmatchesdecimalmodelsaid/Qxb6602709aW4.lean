import Derived.Test.Qxb6602709aW3
namespace Go.Proofs.Qxb6602709a
open Go.RowKit Kit
set_option linter.unusedVariables false

def Enc (f : Nat → Int) (len : Nat) : Prop :=
  (3 ≤ len ∧ (f 1 == 45) = false ∧ Pl.Dig f 1 (len - 2)) ∨ (4 ≤ len ∧ (f 1 == 45) = true ∧ Pl.Dig f 2 (len - 3))

def EncR (f : Nat → Int) (len : Nat) (e : Ending) : Prop := ∃ r, e = .returned (.bool r) ∧ (r = true → Enc f len)

set_option maxHeartbeats 400000 in
theorem enc_short (B len cap : Nat) (f : Nat → Int) (w : World) (hlen : len < 3) :
    Calls Try.prog 9 #[.slice (some ⟨B, 0, none⟩) len cap] w fun e w' => EncR f len e ∧ w' = w := by
  have h1 : (len : Int) < 3 := by omega
  go_enter Try.func9, Try.ntmps9
  go_wp2
  go_ret
  exact ⟨⟨false, rfl, fun h => by cases h⟩, rfl⟩

set_option maxHeartbeats 1000000 in
theorem enc_pos (B m cap : Nat) (f : Nat → Int) (w : World) (hmax : m + 3 ≤ 1048576)
    (hc : ∀ i, i < m + 3 → w.cell? ⟨B, i, none⟩ = some (.int .u8 (f i))) (h105 : f 0 = 105) (he : (f (m + 2) != 101) = false) (hneg : (f 1 == 45) = false) :
    Calls Try.prog 9 #[.slice (some ⟨B, 0, none⟩) (m + 3) cap] w fun e w' => EncR f (m + 3) e ∧ w' = w := by
  have c0 := hc 0 (by omega)
  have c1 := hc 1 (by omega)
  have c2 := hc (m + 2) (by omega)
  rw [h105] at c0
  have HC := hid hc
  have d1 : decide ((m : Int) + 3 < 3) = false := by simp; omega
  have d2 : decide ((m : Int) + 3 - 1 ≤ 1) = false := by simp; omega
  clear hc
  go_enter Try.func9, Try.ntmps9
  go_wp2
  go_loop [3] (fun i => ∃ k : Nat, 1 ≤ k ∧ k ≤ m + 2 ∧ i = .int .i64 k ∧ Hid (∀ j, 1 ≤ j → j < k → 48 ≤ f j ∧ f j ≤ 57)) (fun i => m + 2 - (intOf i).toNat)
  case atStart => exact ⟨1, Nat.le_refl _, by omega, rfl, fun j h1 h2 => by omega⟩
  case round =>
    obtain ⟨k, hk1, hk2, rfl, hup⟩ := hrel
    by_cases hlt : k < m + 2
    · have ck := HC.out k (by omega)
      by_cases ha : f k < 48
      · go_wp2
        go_ret
        exact ⟨⟨false, rfl, fun h => by cases h⟩, rfl⟩
      by_cases hb : 57 < f k
      · go_wp2
        go_ret
        exact ⟨⟨false, rfl, fun h => by cases h⟩, rfl⟩
      · have hdig : 48 ≤ f k ∧ f k ≤ 57 := by omega
        have HD := hid hdig
        clear hdig
        go_wp2
        go_round
        case rel =>
          refine ⟨k + 1, by omega, by omega, by go_num, ?_⟩
          intro j h1 h2
          rcases Nat.lt_or_ge j k with h | h
          · exact hup.out j h1 h
          · obtain rfl : j = k := by omega
            exact HD.out
        case measure => simp [intOf]; omega
    · obtain rfl : k = m + 2 := by omega
      go_wp2
      go_ret
      refine ⟨⟨true, rfl, fun _ => ?_⟩, rfl⟩
      exact .inl ⟨by omega, hneg, fun i hi => hup.out (1 + i) (by omega) (by omega)⟩

set_option maxHeartbeats 1000000 in
theorem enc_neg (B m cap : Nat) (f : Nat → Int) (w : World) (hmax : m + 3 ≤ 1048576) (hm : 1 ≤ m)
    (hc : ∀ i, i < m + 3 → w.cell? ⟨B, i, none⟩ = some (.int .u8 (f i))) (h105 : f 0 = 105) (he : (f (m + 2) != 101) = false) (hneg : (f 1 == 45) = true) :
    Calls Try.prog 9 #[.slice (some ⟨B, 0, none⟩) (m + 3) cap] w fun e w' => EncR f (m + 3) e ∧ w' = w := by
  have c0 := hc 0 (by omega)
  have c1 := hc 1 (by omega)
  have c2 := hc (m + 2) (by omega)
  rw [h105] at c0
  have HC := hid hc
  have d1 : decide ((m : Int) + 3 < 3) = false := by simp; omega
  have d2 : decide ((m : Int) + 3 - 1 ≤ 2) = false := by simp; omega
  clear hc
  go_enter Try.func9, Try.ntmps9
  go_wp2
  go_loop [3] (fun i => ∃ k : Nat, 2 ≤ k ∧ k ≤ m + 2 ∧ i = .int .i64 k ∧ Hid (∀ j, 2 ≤ j → j < k → 48 ≤ f j ∧ f j ≤ 57)) (fun i => m + 2 - (intOf i).toNat)
  case atStart => exact ⟨2, Nat.le_refl _, by omega, rfl, fun j h1 h2 => by omega⟩
  case round =>
    obtain ⟨k, hk1, hk2, rfl, hup⟩ := hrel
    by_cases hlt : k < m + 2
    · have ck := HC.out k (by omega)
      by_cases ha : f k < 48
      · go_wp2
        go_ret
        exact ⟨⟨false, rfl, fun h => by cases h⟩, rfl⟩
      by_cases hb : 57 < f k
      · go_wp2
        go_ret
        exact ⟨⟨false, rfl, fun h => by cases h⟩, rfl⟩
      · have hdig : 48 ≤ f k ∧ f k ≤ 57 := by omega
        have HD := hid hdig
        clear hdig
        go_wp2
        go_round
        case rel =>
          refine ⟨k + 1, by omega, by omega, by go_num, ?_⟩
          intro j h1 h2
          rcases Nat.lt_or_ge j k with h | h
          · exact hup.out j h1 h
          · obtain rfl : j = k := by omega
            exact HD.out
        case measure => simp [intOf]; omega
    · obtain rfl : k = m + 2 := by omega
      go_wp2
      go_ret
      refine ⟨⟨true, rfl, fun _ => ?_⟩, rfl⟩
      exact .inr ⟨by omega, hneg, fun i hi => hup.out (2 + i) (by omega) (by omega)⟩

set_option maxHeartbeats 400000 in
theorem enc_noE (B m cap : Nat) (f : Nat → Int) (w : World) (hmax : m + 3 ≤ 1048576)
    (hc : ∀ i, i < m + 3 → w.cell? ⟨B, i, none⟩ = some (.int .u8 (f i))) (h105 : f 0 = 105) (he : (f (m + 2) != 101) = true) :
    Calls Try.prog 9 #[.slice (some ⟨B, 0, none⟩) (m + 3) cap] w fun e w' => EncR f (m + 3) e ∧ w' = w := by
  have c0 := hc 0 (by omega)
  have c2 := hc (m + 2) (by omega)
  rw [h105] at c0
  have d1 : decide ((m : Int) + 3 < 3) = false := by simp; omega
  clear hc
  go_enter Try.func9, Try.ntmps9
  go_wp2
  go_ret
  exact ⟨⟨false, rfl, fun h => by cases h⟩, rfl⟩

set_option maxHeartbeats 400000 in
theorem enc_bare (B cap : Nat) (f : Nat → Int) (w : World)
    (hc : ∀ i, i < 3 → w.cell? ⟨B, i, none⟩ = some (.int .u8 (f i))) (h105 : f 0 = 105) (he : (f 2 != 101) = false) (hneg : (f 1 == 45) = true) :
    Calls Try.prog 9 #[.slice (some ⟨B, 0, none⟩) 3 cap] w fun e w' => EncR f 3 e ∧ w' = w := by
  have c0 := hc 0 (by omega)
  have c1 := hc 1 (by omega)
  have c2 := hc 2 (by omega)
  rw [h105] at c0
  clear hc
  go_enter Try.func9, Try.ntmps9
  go_wp2
  go_ret
  exact ⟨⟨false, rfl, fun h => by cases h⟩, rfl⟩

theorem enc_any (B len cap : Nat) (f : Nat → Int) (w : World) (hmax : len ≤ 1048576)
    (hc : ∀ i, i < len → w.cell? ⟨B, i, none⟩ = some (.int .u8 (f i))) (h105 : f 0 = 105) :
    Calls Try.prog 9 #[.slice (some ⟨B, 0, none⟩) len cap] w fun e w' => EncR f len e ∧ w' = w := by
  by_cases h3 : len < 3
  · exact enc_short B len cap f w h3
  obtain ⟨m, rfl⟩ : ∃ m, len = m + 3 := ⟨len - 3, by omega⟩
  cases he : (f (m + 2) != 101)
  · cases hneg : (f 1 == 45)
    · exact enc_pos B m cap f w hmax hc h105 he hneg
    · by_cases hm : 1 ≤ m
      · exact enc_neg B m cap f w hmax hm hc h105 he hneg
      · obtain rfl : m = 0 := by omega
        exact enc_bare B cap f w hc h105 he hneg
  · exact enc_noE B m cap f w hmax hc h105 he

end Go.Proofs.Qxb6602709a
