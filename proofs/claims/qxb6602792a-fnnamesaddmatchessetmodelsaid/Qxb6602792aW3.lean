import Derived.Test.Qxb6602792aW2
namespace Go.Proofs.Qxb6602792a
open Go.RowKit Kit
set_option linter.unusedVariables false

def RetB (e : Ending) : Prop := ∃ r : Bool, e = .returned (.bool r)

/-- a slice of strings as it comes in: nil, or at an address -/
def ArgF (w : World) (v : Value) (n : Nat) (f : Nat → ByteArray) : Prop :=
  (v = .slice none 0 0 ∧ n = 0) ∨ ∃ x cap, v = .slice (some x) n cap ∧ n ≤ maxLen ∧ ∀ i, i < n → w.cell? (x.add i) = some (.string (f i)) ∧ (f i).size ≤ maxLen

set_option maxHeartbeats 400000 in
theorem zz14_nil (w : World) :
    Calls Try.prog 14 #[.slice none 0 0] w fun e w' => RetB e ∧ w' = w := by
  go_enter Try.func14, Try.ntmps14
  go_wp2
  refine wp_loop_rounds 1 ?_
  rw [rounds_succ]
  go_wp2
  go_ret
  exact ⟨⟨_, rfl⟩, rfl⟩

set_option maxHeartbeats 400000 in
theorem zz14_some (x : Addr) (n cap : Nat) (f : Nat → ByteArray) (w : World) (hn : n ≤ maxLen)
    (hc : ∀ i, i < n → w.cell? (x.add i) = some (.string (f i))) :
    Calls Try.prog 14 #[.slice (some x) n cap] w fun e w' => RetB e ∧ w' = w := by
  have HC := hid hc
  clear hc
  by_cases hbig : (1048576 : Int) < n
  · go_enter Try.func14, Try.ntmps14
    go_wp2
    go_ret
    exact ⟨⟨_, rfl⟩, rfl⟩
  go_enter Try.func14, Try.ntmps14
  go_wp2
  go_loop [3, 4] (fun z i => ∃ k : Nat, ∃ y : Int, k ≤ n ∧ i = .int .i64 k ∧ z = .int .i64 y) (fun _ i => n - (intOf i).toNat)
  case atStart => exact ⟨0, _, Nat.zero_le _, rfl, rfl⟩
  case round =>
    obtain ⟨k, y, hk, rfl, rfl⟩ := hrel
    by_cases hlt : k < n
    · have ck := HC.out k hlt
      go_wp2
      · go_ret
        exact ⟨⟨_, rfl⟩, rfl⟩
      · go_ret
        exact ⟨⟨_, rfl⟩, rfl⟩
      · go_round
        case rel => exact ⟨k + 1, _, by omega, by go_num, rfl⟩
        case measure => simp [intOf]; omega
    · go_wp2
      go_ret
      exact ⟨⟨_, rfl⟩, rfl⟩

theorem zz14_any {v : Value} {n : Nat} {f : Nat → ByteArray} (w : World) (h : ArgF w v n f) :
    Calls Try.prog 14 #[v] w fun e w' => RetB e ∧ w' = w := by
  rcases h with ⟨rfl, rfl⟩ | ⟨x, cap, rfl, hn, hc⟩
  · exact zz14_nil w
  · exact zz14_some x n cap f w hn (fun i hi => (hc i hi).1)

end Go.Proofs.Qxb6602792a
