import Derived.Test.Qxb6602792aRows
import Derived.Test.Qxb6602792aKit
import Derived.BigRegion
import Derived.BigQuiet
import Derived.Deep.QuietTactic
import Derived.Deep.RegionWith
namespace Go.Proofs.Qxb6602792a
open Go.RowKit Kit
set_option linter.unusedVariables false

/-- a slice value of n strings, f i at place i -/
def StrF (w : World) (v : Value) (n : Nat) (f : Nat → ByteArray) : Prop :=
  ∃ a cap, v = .slice a n cap ∧ (n = 0 ∨ ∃ g o, a = some ⟨g, o, none⟩ ∧ ∀ i, i < n → w.cell? ⟨g, o + i, none⟩ = some (.string (f i)))

def InF (n : Nat) (f : Nat → ByteArray) (s : ByteArray) : Prop := ∃ i, i < n ∧ f i = s

/-- a bool that tells whether s is among them -/
def RetIn (n : Nat) (f : Nat → ByteArray) (s : ByteArray) (e : Ending) : Prop := ∃ r : Bool, e = .returned (.bool r) ∧ (r = true ↔ InF n f s)

theorem bytes_eq {a b : ByteArray} (h : (a.toList == b.toList) = true) : a = b := by
  have h := beq_iff_eq.1 h
  rw [ByteArray.toList_eq, ByteArray.toList_eq] at h
  cases a; cases b
  simp only [ByteArray.mk.injEq]
  exact Array.toList_inj.1 h

theorem bytes_ne {a b : ByteArray} (h : (a.toList == b.toList) = false) : a ≠ b := by
  intro e; subst e; simp at h

theorem bytes_beq_self (a : ByteArray) : (a.toList == a.toList) = true := by simp

theorem bytes_beq_ne {a b : ByteArray} (h : a ≠ b) : (a.toList == b.toList) = false := by
  cases e : (a.toList == b.toList)
  · rfl
  · exact absurd (bytes_eq e) h

theorem retIn_no {n : Nat} {f : Nat → ByteArray} {s : ByteArray} {k : Nat} (hk : n ≤ k) (hno : ∀ j, j < k → f j ≠ s) : RetIn n f s (.returned (.bool false)) := by
  refine ⟨false, rfl, ?_⟩
  constructor
  · intro h; cases h
  · rintro ⟨i, hi, he⟩
    exact absurd he (hno i (by omega))

theorem retIn_yes {n : Nat} {f : Nat → ByteArray} {s : ByteArray} {k : Nat} (hk : k < n) (he : f k = s) : RetIn n f s (.returned (.bool true)) :=
  ⟨true, rfl, fun _ => ⟨k, hk, he⟩, fun _ => rfl⟩

set_option maxHeartbeats 400000 in
theorem contains_some (g o cap n : Nat) (f : Nat → ByteArray) (s : ByteArray) (w : World) (hn : n ≤ 1048576)
    (hc : ∀ i, i < n → w.cell? ⟨g, o + i, none⟩ = some (.string (f i))) :
    Calls Try.prog 10 #[.slice (some ⟨g, o, none⟩) n cap, .string s] w fun e w' => RetIn n f s e ∧ w' = w := by
  have HC := hid hc
  clear hc
  go_enter Try.func10, Try.ntmps10
  go_wp2
  go_loop [5] (fun i => ∃ k : Nat, k ≤ n ∧ i = .int .i64 k ∧ Hid (∀ j, j < k → f j ≠ s)) (fun i => n - (intOf i).toNat)
  case atStart => exact ⟨0, Nat.zero_le _, rfl, fun j hj => by omega⟩
  case round =>
    obtain ⟨k, hk, rfl, hno⟩ := hrel
    by_cases hlt : k < n
    · have ck := HC.out k hlt
      go_wp2
      · have he : ((f k).toList == s.toList) = true := by assumption
        go_ret
        exact ⟨retIn_yes hlt (bytes_eq he), rfl⟩
      · have he : ((f k).toList == s.toList) = false := by assumption
        go_round
        case rel =>
          refine ⟨k + 1, by omega, by go_num, ?_⟩
          intro j hj
          rcases Nat.lt_or_ge j k with h | h
          · exact hno.out j h
          · obtain rfl : j = k := by omega
            exact bytes_ne he
        case measure => simp [intOf]; omega
    · go_wp2
      go_ret
      exact ⟨retIn_no (by omega) hno.out, rfl⟩

set_option maxHeartbeats 400000 in
theorem contains_none (a : Option Addr) (cap : Nat) (f : Nat → ByteArray) (s : ByteArray) (w : World) :
    Calls Try.prog 10 #[.slice a 0 cap, .string s] w fun e w' => RetIn 0 f s e ∧ w' = w := by
  go_enter Try.func10, Try.ntmps10
  go_wp2
  refine wp_loop_rounds 1 ?_
  rw [rounds_succ]
  go_wp2
  go_ret
  exact ⟨retIn_no (k := 0) (by omega) (fun j hj => by omega), rfl⟩

theorem contains_any {v : Value} {n : Nat} {f : Nat → ByteArray} (s : ByteArray) (w : World) (hn : n ≤ 1048576) (h : StrF w v n f) :
    Calls Try.prog 10 #[v, .string s] w fun e w' => RetIn n f s e ∧ w' = w := by
  obtain ⟨a, cap, rfl, rfl | ⟨g, o, rfl, hc⟩⟩ := h
  · exact contains_none a cap f s w
  · exact contains_some g o cap n f s w hn hc

/-- slices.Index: -1 just where s is not among them -/
def RetIx (n : Nat) (f : Nat → ByteArray) (s : ByteArray) (e : Ending) : Prop := ∃ z : Int, e = .returned (.int .i64 z) ∧ (0 ≤ z ↔ InF n f s)

set_option maxHeartbeats 400000 in
theorem index_some (g o cap n : Nat) (f : Nat → ByteArray) (s : ByteArray) (w : World) (hn : n ≤ 1048576)
    (hc : ∀ i, i < n → w.cell? ⟨g, o + i, none⟩ = some (.string (f i))) :
    Calls Try.prog 27 #[.slice (some ⟨g, o, none⟩) n cap, .string s] w fun e w' => RetIx n f s e ∧ w' = w := by
  have HC := hid hc
  clear hc
  go_enter Try.func27, Try.ntmps27
  go_wp2
  go_loop [8] (fun i => ∃ k : Nat, k ≤ n ∧ i = .int .i64 k ∧ Hid (∀ j, j < k → f j ≠ s)) (fun i => n - (intOf i).toNat)
  case atStart => exact ⟨0, Nat.zero_le _, rfl, fun j hj => by omega⟩
  case round =>
    obtain ⟨k, hk, rfl, hno⟩ := hrel
    by_cases hlt : k < n
    · have ck := HC.out k hlt
      go_wp2
      · have he : (s.toList == (f k).toList) = true := by assumption
        go_ret
        exact ⟨⟨k, rfl, fun _ => ⟨k, hlt, (bytes_eq he).symm⟩, fun _ => by omega⟩, rfl⟩
      · have he : (s.toList == (f k).toList) = false := by assumption
        go_round
        case rel =>
          refine ⟨k + 1, by omega, by go_num, ?_⟩
          intro j hj
          rcases Nat.lt_or_ge j k with h | h
          · exact hno.out j h
          · obtain rfl : j = k := by omega
            exact fun e => bytes_ne he e.symm
        case measure => simp [intOf]; omega
    · go_wp2
      go_ret
      exact ⟨⟨-1, rfl, fun h => by omega, fun ⟨i, hi, he⟩ => absurd he (hno.out i (by omega))⟩, rfl⟩

set_option maxHeartbeats 400000 in
theorem index_none (a : Option Addr) (cap : Nat) (f : Nat → ByteArray) (s : ByteArray) (w : World) :
    Calls Try.prog 27 #[.slice a 0 cap, .string s] w fun e w' => RetIx 0 f s e ∧ w' = w := by
  go_enter Try.func27, Try.ntmps27
  go_wp2
  refine wp_loop_rounds 1 ?_
  rw [rounds_succ]
  go_wp2
  go_ret
  exact ⟨⟨-1, rfl, fun h => by omega, fun ⟨i, hi, he⟩ => by omega⟩, rfl⟩

set_option maxHeartbeats 400000 in
theorem has_any {v : Value} {n : Nat} {f : Nat → ByteArray} (s : ByteArray) (w : World) (hn : n ≤ 1048576) (h : StrF w v n f) :
    Calls Try.prog 25 #[v, .string s] w fun e w' => RetIn n f s e ∧ w' = w := by
  have hx : Calls Try.prog 27 #[v, .string s] w fun e w' => RetIx n f s e ∧ w' = w := by
    obtain ⟨a, cap, rfl, rfl | ⟨g, o, rfl, hc⟩⟩ := h
    · exact index_none a cap f s w
    · exact index_some g o cap n f s w hn hc
  have HX := hid hx
  obtain ⟨a, cap, rfl, -⟩ := h
  clear hx
  go_enter Try.func25, Try.ntmps25
  go_wp2_with fail
  refine HX.out.mono ?_
  rintro e w' ⟨⟨z, rfl, hz⟩, rfl⟩
  have HZ := hid hz
  clear hz
  go_wp2
  go_ret
  refine ⟨⟨decide (0 ≤ z), rfl, ?_⟩, rfl⟩
  rw [decide_eq_true_iff]
  exact HZ.out

end Go.Proofs.Qxb6602792a
