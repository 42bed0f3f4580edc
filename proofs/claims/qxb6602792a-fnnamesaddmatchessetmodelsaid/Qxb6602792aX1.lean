import Derived.Test.Qxb6602792aW9
namespace Go.Proofs.Qxb6602792a
open Go.RowKit Kit
set_option linter.unusedVariables false

theorem ArgF.parts {w : World} {v : Value} {n : Nat} {f : Nat → ByteArray} (h : ArgF w v n f) :
    ∃ a cap, v = .slice a n cap ∧ n ≤ maxLen ∧ ∀ i, i < n → ∃ x, a = some x ∧ w.cell? (x.add i) = some (.string (f i)) := by
  rcases h with ⟨rfl, rfl⟩ | ⟨x, cap, rfl, hn, hc⟩
  · exact ⟨none, 0, rfl, Nat.zero_le _, fun i hi => by omega⟩
  · exact ⟨_, cap, rfl, hn, fun i hi => ⟨x, rfl, (hc i hi).1⟩⟩

set_option maxHeartbeats 1000000 in
set_option maxRecDepth 100000 in
theorem zz8_any {v u : Value} {n m : Nat} {f h : Nat → ByteArray} (b : Bool) (s : ByteArray) (w : World) (hv : ArgF w v n f) (hu : ArgF w u m h) (hs : s.size ≤ maxLen) :
    Calls Try.prog 8 #[v, .bool b, u, .string s] w fun e w' => RetB e ∧ w' = w := by
  obtain ⟨a, ca, rfl, hn, hc⟩ := hv.parts
  obtain ⟨d, cd, rfl, hm, hd⟩ := hu.parts
  clear hv hu
  have HC := hid hc
  have HD := hid hd
  clear hc hd
  unfold maxLen at hn hm hs
  by_cases hbig : (1048576 : Int) < n
  · go_enter Try.func8, Try.ntmps8
    go_wp2
    go_ret
    exact ⟨⟨_, rfl⟩, rfl⟩
  go_enter Try.func8, Try.ntmps8
  go_wp2
  go_loop [9, 10] (fun z i => ∃ k : Nat, ∃ y : Int, k ≤ n ∧ i = .int .i64 k ∧ z = .int .i64 y) (fun _ i => n - (intOf i).toNat)
  case atStart => exact ⟨0, _, Nat.zero_le _, rfl, rfl⟩
  case round =>
    obtain ⟨k, y, hk, rfl, rfl⟩ := hrel
    by_cases hlt : k < n
    · obtain ⟨x, rfl, ck⟩ := HC.out k hlt
      go_wp2
      · go_ret
        exact ⟨⟨_, rfl⟩, rfl⟩
      · go_ret
        exact ⟨⟨_, rfl⟩, rfl⟩
      · go_round
        case rel => exact ⟨k + 1, _, by omega, by go_num, rfl⟩
        case measure => simp [intOf]; omega
    · go_wp2
      · go_ret
        exact ⟨⟨_, rfl⟩, rfl⟩
      · go_ret
        exact ⟨⟨_, rfl⟩, rfl⟩
      · go_loop [9, 11] (fun z i => ∃ k : Nat, ∃ y : Int, k ≤ m ∧ i = .int .i64 k ∧ z = .int .i64 y) (fun _ i => m - (intOf i).toNat)
        case atStart => exact ⟨0, _, Nat.zero_le _, rfl, rfl⟩
        case round =>
          obtain ⟨t, y, ht, rfl, rfl⟩ := hrel
          by_cases hlt2 : t < m
          · obtain ⟨x, rfl, ck⟩ := HD.out t hlt2
            go_wp2
            · go_ret
              exact ⟨⟨_, rfl⟩, rfl⟩
            · go_ret
              exact ⟨⟨_, rfl⟩, rfl⟩
            · go_round
              case rel => exact ⟨t + 1, _, by omega, by go_num, rfl⟩
              case measure => simp [intOf]; omega
          · go_wp2
            all_goals
              go_ret
              exact ⟨⟨_, rfl⟩, rfl⟩

end Go.Proofs.Qxb6602792a
