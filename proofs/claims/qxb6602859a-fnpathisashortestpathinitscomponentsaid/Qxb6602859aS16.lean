import Derived.Test.Qxb6602859aS15
namespace Go.Proofs.Qxb6602859a
open Go.RowKit Kit
set_option linter.unusedVariables false
set_option linter.unusedSimpArgs false

/-- the first k places have been exchanged with the last k -/
def rvd (n : Nat) (F : Nat → Value) (k x : Nat) : Value := if x < n ∧ (x < k ∨ n - 1 - x < k) then F (n - 1 - x) else F x

theorem rvd_step (n : Nat) (F : Nat → Value) (k x : Nat) (hk : k + k + 1 < n) : rvd n F (k + 1) x = if x = n - 1 - k then F k else if x = k then F (n - 1 - k) else rvd n F k x := by
  unfold rvd
  by_cases h1 : x = n - 1 - k
  · subst h1
    rw [if_pos (by omega), if_pos rfl]
    congr 1; omega
  · rw [if_neg h1]
    by_cases h2 : x = k
    · subst h2
      rw [if_pos (by omega), if_pos rfl]
    · rw [if_neg h2]
      have : (x < n ∧ (x < k + 1 ∨ n - 1 - x < k + 1)) ↔ (x < n ∧ (x < k ∨ n - 1 - x < k)) := by omega
      simp [this]

theorem rvd_mid (n : Nat) (F : Nat → Value) (k x : Nat) (h1 : k ≤ x) (h2 : k ≤ n - 1 - x) : rvd n F k x = F x := by
  unfold rvd
  rw [if_neg (by omega)]

theorem rvd_end (n : Nat) (F : Nat → Value) (k x : Nat) (hk : n ≤ k + k + 1) (hx : x < n) : rvd n F k x = F (n - 1 - x) := by
  unfold rvd
  by_cases h : x < k ∨ n - 1 - x < k
  · rw [if_pos ⟨hx, h⟩]
  · rw [if_neg (by omega)]; congr 1; omega

set_option maxHeartbeats 2000000 in
theorem rev_any (g n cap : Nat) (F : Nat → Value) (w : World) (hn : 1 ≤ n) (hn2 : n ≤ 131072) (hc : n ≤ cap) (hc2 : cap ≤ 9223372036854775807) (hr : w.rowIs g 21 cap F) (hF : ∀ i, i < n → ∃ z, F i = .int .i32 z) :
    Calls Try.prog 31 #[.slice (some ⟨g, 0, none⟩) n cap] w fun e w' => e = .returned (.tuple #[]) ∧ w'.rowIs g 21 cap (fun i => if i < n then F (n - 1 - i) else F i) ∧ Kept (fun x => x = g) w w' := by
  have HR := hid hr
  have HFz := hid hF
  clear hr hF
  have e0 : ((n : Int) - 1) = ((n - 1 : Nat) : Int) := by omega
  go_enter Try.func31, Try.ntmps31
  go_wp2
  go_loopw [2, 3] (fun i j wr => ∃ k : Nat, k ≤ n - 1 ∧ i = .int .i64 (k : Int) ∧ j = .int .i64 (((n - 1 - k : Nat)) : Int) ∧ Hid (wr.rowIs g 21 cap (rvd n F k)) ∧ Hid (Kept (fun x => x = g) w wr)) (fun i _ _ => n - (intOf i).toNat)
  case atStart =>
    refine ⟨0, by omega, rfl, by simp, hid (HR.out.congr (fun i hi => ?_)), hid (Kept.refl _ _)⟩
    unfold rvd
    rw [if_neg (by omega)]
  case round =>
    obtain ⟨k, hk, rfl, rfl, HW, HKp⟩ := hrel
    obtain ⟨j, hj⟩ : ∃ j, n - 1 - k = j := ⟨_, rfl⟩
    rw [hj]
    by_cases hlt : k < j
    · have hlt' : decide ((k : Int) < (j : Int)) = true := by simp; omega
      have ck := HW.out.cell (i := k) (by omega)
      have cj := HW.out.cell (i := j) (by omega)
      rw [rvd_mid n F k k (Nat.le_refl _) (by omega)] at ck
      rw [rvd_mid n F k j (by omega) (by omega)] at cj
      obtain ⟨zk, hzk⟩ := HFz.out k (by omega)
      obtain ⟨zj, hzj⟩ := HFz.out j (by omega)
      rw [hzk] at ck
      rw [hzj] at cj
      have zk' := HW.out.frozen k
      have zj' := HW.out.frozen j
      have i0 : (0 : Int) ≤ (k : Int) := by omega
      have i1 : (k : Int) < (n : Int) := by omega
      have i2 : (0 : Int) ≤ (j : Int) := by omega
      have i3 : (j : Int) < (n : Int) := by omega
      have ne : ¬ k = j := by omega
      have HJ := hid hj
      have HZ := hid (And.intro hzk hzj)
      clear hj hzk hzj e0
      go_wp2
      go_region
      all_goals go_wp2
      go_roundw
      case rel =>
        refine ⟨k + 1, by have := HJ.out; omega, by go_num, ?_, hid ?_, hid ?_⟩
        · congr 1
          have := HJ.out
          omega
        · refine ((HW.out.set k (.int .i32 zj)).set j (.int .i32 zk)).congr (fun i hi => ?_)
          rw [rvd_step n F k i (by have := HJ.out; omega), HJ.out, HZ.out.1, HZ.out.2]
        · exact ((HKp.out.setCell (.inl rfl) _).setCell (.inl rfl) _).drew
      case measure => simp [intOf]; omega
    · have hlt' : decide ((k : Int) < (j : Int)) = false := by simp; omega
      have HJ := hid hj
      clear hj e0
      go_wp2
      go_end0
      refine ⟨rfl, HW.out.congr (fun i hi => ?_), HKp.out⟩
      by_cases h : i < n
      · rw [if_pos h, rvd_end n F k i (by have := HJ.out; omega) h]
      · rw [if_neg h]; unfold rvd; rw [if_neg (by omega)]

end Go.Proofs.Qxb6602859a
