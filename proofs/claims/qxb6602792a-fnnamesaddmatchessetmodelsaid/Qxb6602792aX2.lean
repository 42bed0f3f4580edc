import Derived.Test.Qxb6602792aX1
namespace Go.Proofs.Qxb6602792a
open Go.RowKit Kit
set_option linter.unusedVariables false

theorem nd_old {f : Nat → ByteArray} {k t : Nat} (ht : t < k) (he : f t = f k) : nd f (k + 1) = nd f k := by
  simp only [nd]
  rw [(memF_iff f (f k) k).2 ⟨t, ht, he⟩]; rfl

theorem nd_new {f : Nat → ByteArray} {k : Nat} (hno : ∀ j, j < k → f j ≠ f k) : nd f (k + 1) = nd f k + 1 := by
  simp only [nd]
  have : memF f k (f k).data.toList = false := by
    cases hm : memF f k (f k).data.toList
    · rfl
    · obtain ⟨i, hi, he⟩ := (memF_iff f (f k) k).1 hm
      exact absurd he (hno i hi)
  rw [this]; rfl

theorem int_cast {a b : Nat} (h : a = b) : Value.int .i64 (a : Int) = .int .i64 (b : Int) := by rw [h]

set_option maxHeartbeats 1000000 in
set_option maxRecDepth 100000 in
theorem count_some (g o cap n : Nat) (f : Nat → ByteArray) (w : World) (hn : n ≤ 4096)
    (hc : ∀ i, i < n → w.cell? ⟨g, o + i, none⟩ = some (.string (f i))) :
    Calls Try.prog 13 #[.slice (some ⟨g, o, none⟩) n cap] w fun e w' => e = .returned (.int .i64 (nd f n)) ∧ ∃ q, w' = w.drewN q := by
  have HC := hid hc
  clear hc
  go_enter Try.func13, Try.ntmps13
  go_wp2
  go_loopw [3, 4] (fun c i wr => ∃ k : Nat, k ≤ n ∧ i = .int .i64 k ∧ c = .int .i64 (nd f k) ∧ ∃ q, wr = w.drewN q) (fun _ i _ => n - (intOf i).toNat)
  case atStart => exact ⟨0, Nat.zero_le _, rfl, rfl, 0, rfl⟩
  case round =>
    obtain ⟨k, hk, rfl, rfl, q, rfl⟩ := hrel
    have hnd := nd_le f k
    by_cases hlt : k < n
    · have ck := HC.out k hlt
      go_wp2
      go_loopw [5, 6] (fun d p wr => ∃ t : Nat, t ≤ k ∧ p = .int .i64 t ∧ d = .bool false ∧ Hid (∀ j, j < t → f j ≠ f k) ∧ ∃ q, wr = w.drewN q) (fun _ p _ => k - (intOf p).toNat)
      case atStart => exact ⟨0, Nat.zero_le _, rfl, rfl, (fun j hj => by omega), q, rfl⟩
      case round =>
        obtain ⟨t, ht, rfl, rfl, hno, q2, rfl⟩ := hrel
        by_cases hlt2 : t < k
        · have ct := HC.out t (by omega)
          cases he : ((f t).toList == (f k).toList)
          · go_wp2
            go_quiet (fail)
            go_wp2
            go_roundw
            case rel =>
              refine ⟨t + 1, by omega, by go_num, rfl, ?_, _, rfl⟩
              intro j hj
              rcases Nat.lt_or_ge j t with h | h
              · exact hno.out j h
              · obtain rfl : j = t := by omega
                exact bytes_ne he
            case measure => simp [intOf]; omega
          · have HE := hid (nd_old hlt2 (bytes_eq he))
            go_wp2
            go_quiet (fail)
            go_wp2
            go_roundw
            case rel => exact ⟨k + 1, by omega, by go_num, int_cast HE.out.symm, _, rfl⟩
            case measure => simp [intOf]; omega
        · obtain rfl : t = k := by omega
          have HE := hid (nd_new hno.out)
          go_wp2
          go_roundw
          case rel => exact ⟨t + 1, by omega, by go_num, by rw [HE.out]; go_num, _, rfl⟩
          case measure => simp [intOf]; omega
    · obtain rfl : k = n := by omega
      go_wp2
      go_ret
      exact ⟨rfl, _, rfl⟩

set_option maxHeartbeats 400000 in
theorem count_none (a : Option Addr) (cap : Nat) (f : Nat → ByteArray) (w : World) :
    Calls Try.prog 13 #[.slice a 0 cap] w fun e w' => e = .returned (.int .i64 (nd f 0)) ∧ ∃ q, w' = w.drewN q := by
  go_enter Try.func13, Try.ntmps13
  go_wp2
  refine wp_loop_rounds 1 ?_
  rw [rounds_succ]
  go_wp2
  go_ret
  exact ⟨rfl, 0, rfl⟩

theorem count_any {v : Value} {n : Nat} {f : Nat → ByteArray} (w : World) (hn : n ≤ 4096) (h : StrF w v n f) :
    Calls Try.prog 13 #[v] w fun e w' => e = .returned (.int .i64 (nd f n)) ∧ ∃ q, w' = w.drewN q := by
  obtain ⟨a, cap, rfl, rfl | ⟨g, o, rfl, hc⟩⟩ := h
  · exact count_none a cap f w
  · exact count_some g o cap n f w hn hc

end Go.Proofs.Qxb6602792a
