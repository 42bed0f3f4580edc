import Derived.Test.Qxb6602709aW1
import Derived.Test.Qxb6602709aPlain
namespace Go.Proofs.Qxb6602709a
open Go.RowKit Kit
set_option linter.unusedVariables false

set_option maxHeartbeats 400000 in
theorem of_any (v : Value) (hv : v.oneCell' = true) (a : Option Addr) (len cap : Nat) (he : v = .slice a len cap) (w : World) :
    Calls Try.prog 7 #[v] w fun e w' => e = .returned (.agg #[v]) ∧ w' = w.alloc (.cells #[v] 26) := by
  subst he
  go_enter Try.func7, Try.ntmps7
  go_wp2
  exact bodyPost_ret (v := .agg #[.slice a len cap]) (by simp [results, Try.results7, go_sem]) rfl ⟨rfl, rfl⟩

set_option maxHeartbeats 400000 in
theorem kind_none (a : Option Addr) (cap : Nat) (w : World) :
    Calls Try.prog 12 #[.agg #[.slice a 0 cap]] w fun e w' => e = .returned (.int .u8 0) ∧ w' = w.alloc (.cells #[.slice a 0 cap] 26) := by
  go_enter Try.func12, Try.ntmps12
  go_wp2
  go_ret
  exact ⟨rfl, rfl⟩

set_option maxHeartbeats 400000 in
theorem kind_int (B len cap : Nat) (w : World) (hlen : 0 < len) (hc : w.cell? ⟨B, 0, none⟩ = some (.int .u8 105)) :
    Calls Try.prog 12 #[.agg #[.slice (some ⟨B, 0, none⟩) len cap]] w fun e w' => e = .returned (.int .u8 2) ∧ w' = w.alloc (.cells #[.slice (some ⟨B, 0, none⟩) len cap] 26) := by
  have h0 : ((len : Int) == 0) = false := by simp; omega
  have h1 : (0 : Int) < (len : Int) := by omega
  have hB := World.block_lt_of_cell? _ _ hc
  have hc' : (w.alloc (.cells #[.slice (some ⟨B, 0, none⟩) len cap] 26)).cell? ⟨B, 0, none⟩ = some (.int .u8 105) := cell_later ((Below.refl _ _).alloc (Nat.le_refl _) _) hc
  go_enter Try.func12, Try.ntmps12
  go_wp2
  go_ret
  exact ⟨rfl, rfl⟩

set_option maxHeartbeats 400000 in
theorem kind_other (B len cap : Nat) (v : Int) (w : World) (hlen : 0 < len) (hc : w.cell? ⟨B, 0, none⟩ = some (.int .u8 v)) (hv : (v == 105) = false) :
    Calls Try.prog 12 #[.agg #[.slice (some ⟨B, 0, none⟩) len cap]] w fun e w' => (∃ k : Int, e = .returned (.int .u8 k) ∧ (k != 2) = true) ∧ w' = w.alloc (.cells #[.slice (some ⟨B, 0, none⟩) len cap] 26) := by
  have h0 : ((len : Int) == 0) = false := by simp; omega
  have h1 : (0 : Int) < (len : Int) := by omega
  have hB := World.block_lt_of_cell? _ _ hc
  have hc' : (w.alloc (.cells #[.slice (some ⟨B, 0, none⟩) len cap] 26)).cell? ⟨B, 0, none⟩ = some (.int .u8 v) := cell_later ((Below.refl _ _).alloc (Nat.le_refl _) _) hc
  go_enter Try.func12, Try.ntmps12
  go_wp2
  all_goals
    go_ret
    exact ⟨⟨_, rfl, by decide⟩, rfl⟩

set_option maxHeartbeats 400000 in
theorem int_none (a : Option Addr) (cap : Nat) (w : World) :
    Calls Try.prog 8 #[.agg #[.slice a 0 cap]] w fun e w' => e = .returned (.tuple #[.int .i64 0, .bool false]) ∧ Below w.heap.size w w' := by
  go_enter Try.func8, Try.ntmps8
  go_wp2_with (go_at_call 12; refine (kind_none _ _ _).mono ?_; rintro e w' ⟨rfl, rfl⟩)
  go_ret2
  exact ⟨rfl, ((Below.refl _ _).alloc (Nat.le_refl _) _).alloc (by simp) _⟩

set_option maxHeartbeats 400000 in
theorem int_other (B len cap : Nat) (v : Int) (w : World) (hlen : 0 < len) (hc : w.cell? ⟨B, 0, none⟩ = some (.int .u8 v)) (hv : (v == 105) = false) :
    Calls Try.prog 8 #[.agg #[.slice (some ⟨B, 0, none⟩) len cap]] w fun e w' => e = .returned (.tuple #[.int .i64 0, .bool false]) ∧ Below w.heap.size w w' := by
  have hc' : ∀ o, (w.alloc o).cell? ⟨B, 0, none⟩ = some (.int .u8 v) := fun o => cell_later ((Below.refl _ _).alloc (Nat.le_refl _) _) hc
  go_enter Try.func8, Try.ntmps8
  go_wp2_with (go_at_call 12; refine (kind_other _ _ _ v _ hlen (hc' _) hv).mono ?_; rintro e w' ⟨⟨k, rfl, hk⟩, rfl⟩)
  go_ret2
  exact ⟨rfl, ((Below.refl _ _).alloc (Nat.le_refl _) _).alloc (by simp) _⟩

end Go.Proofs.Qxb6602709a
