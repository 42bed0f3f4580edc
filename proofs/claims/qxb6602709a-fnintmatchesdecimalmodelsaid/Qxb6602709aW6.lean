import Derived.Test.Qxb6602709aW5
namespace Go.Proofs.Qxb6602709a
open Go.RowKit Kit
set_option linter.unusedVariables false

set_option maxHeartbeats 400000 in
theorem law_long (a : Option Addr) (len cap : Nat) (w : World) (h : 1048576 < len) :
    Calls Try.prog 3 #[.slice a len cap] w fun e w' => e = .returned (.bool true) ∧ Below w.heap.size w w' := by
  go_enter Try.func3, Try.ntmps3
  go_wp2_with (go_at_call 5; refine (bytes_no _ _ _ _ h).mono ?_; rintro e w' ⟨rfl, rfl⟩)
  go_ret
  exact ⟨rfl, Below.refl _ _⟩

set_option maxHeartbeats 400000 in
theorem law_nil (w : World) :
    Calls Try.prog 3 #[.slice none 0 0] w fun e w' => e = .returned (.bool true) ∧ Below w.heap.size w w' := by
  go_enter Try.func3, Try.ntmps3
  go_wp2_with fail
  refine (bytes_yes _ _ _ _ (by omega)).mono ?_
  rintro e w' ⟨rfl, rfl⟩
  go_wp2_with fail
  refine (clone_nil _).mono ?_
  rintro e w' ⟨rfl, rfl⟩
  go_wp2_with fail
  refine (of_any _ rfl none 0 0 rfl _).mono ?_
  rintro e w' ⟨rfl, rfl⟩
  go_wp2_with fail
  refine (int_none none 0 _).mono ?_
  rintro e w' ⟨rfl, hb⟩
  have HB := hid hb
  clear hb
  go_wp2
  go_ret
  exact ⟨rfl, (((Below.refl _ _).alloc (Nat.le_refl _) _).alloc (by simp) _).trans (HB.out.mono (by simp; omega))⟩

theorem clone_row (x : Addr) (len cap : Nat) (f : Nat → Int) (w : World) (h : len ≤ 1048576)
    (hsrc : ∀ i, i < len → w.cell? (x.add i) = some (.int .u8 (f i))) :
    Calls Try.prog 6 #[.slice (some x) len cap] w fun e w' => e = .returned (.slice (some ⟨w.heap.size, 0, none⟩) len len) ∧ Below w.heap.size w w' ∧ (∀ i, i < len → w'.cell? ⟨w.heap.size, i, none⟩ = some (.int .u8 (f i))) := by
  refine (clone_any x len cap f w h hsrc).mono ?_
  rintro e w' ⟨rfl, rfl⟩
  exact ⟨rfl, (Below.refl _ _).alloc (Nat.le_refl _) _, fun i hi => (rowIs_range w 5 len fun i => Value.int .u8 (f i)).cell hi⟩

set_option maxHeartbeats 400000 in
theorem law_empty (x : Addr) (cap : Nat) (f : Nat → Int) (w : World) :
    Calls Try.prog 3 #[.slice (some x) 0 cap] w fun e w' => e = .returned (.bool true) ∧ Below w.heap.size w w' := by
  go_enter Try.func3, Try.ntmps3
  go_wp2_with fail
  refine (bytes_yes _ _ _ _ (by omega)).mono ?_
  rintro e w' ⟨rfl, rfl⟩
  go_wp2_with fail
  refine (clone_row x 0 cap f _ (by omega) (fun i hi => by omega)).mono ?_
  rintro e w1 ⟨rfl, hb1, -⟩
  have HB1 := hid hb1
  have hs1 := hb1.size
  clear hb1
  go_wp2_with fail
  refine (of_any _ rfl _ 0 0 rfl _).mono ?_
  rintro e w' ⟨rfl, rfl⟩
  go_wp2_with fail
  refine (int_none _ 0 _).mono ?_
  rintro e w' ⟨rfl, hb⟩
  have HB := hid hb
  clear hb
  go_wp2
  go_ret
  exact ⟨rfl, ((HB1.out.alloc hs1 _).alloc (by simp; omega) _).trans (HB.out.mono (by simp; omega))⟩

set_option maxHeartbeats 400000 in
theorem law_other (x : Addr) (len cap : Nat) (f : Nat → Int) (w : World) (h0 : 0 < len) (hmax : len ≤ 1048576)
    (hsrc : ∀ i, i < len → w.cell? (x.add i) = some (.int .u8 (f i))) (hv : (f 0 == 105) = false) :
    Calls Try.prog 3 #[.slice (some x) len cap] w fun e w' => e = .returned (.bool true) ∧ Below w.heap.size w w' := by
  have hl0 : ((len : Int) == 0) = false := by simp; omega
  have hne : (f 0 != 105) = true := by simpa using hv
  have HS := hid hsrc
  clear hsrc
  go_enter Try.func3, Try.ntmps3
  go_wp2_with fail
  refine (bytes_yes _ _ _ _ hmax).mono ?_
  rintro e w' ⟨rfl, rfl⟩
  go_wp2_with fail
  refine (clone_row x len cap f _ hmax HS.out).mono ?_
  rintro e w1 ⟨rfl, hb1, hc1⟩
  have HB1 := hid hb1
  have HC1 := hid hc1
  have hs1 := hb1.size
  have c0 := hc1 0 h0
  have hlt1 := World.block_lt_of_cell? _ _ c0
  clear hb1 hc1
  go_wp2_with fail
  refine (of_any _ rfl _ len len rfl _).mono ?_
  rintro e w' ⟨rfl, rfl⟩
  go_wp2_with fail
  refine (int_other _ len len (f 0) _ h0 ?_ hv).mono ?_
  · exact cell_later (((Below.refl _ _).alloc (Nat.le_refl _) _).alloc (by simp) _) (HC1.out 0 h0)
  rintro e w' ⟨rfl, hb⟩
  have HB := hid hb
  clear hb
  go_wp2
  go_ret
  exact ⟨rfl, ((HB1.out.alloc hs1 _).alloc (by simp; omega) _).trans (HB.out.mono (by simp; omega))⟩

end Go.Proofs.Qxb6602709a
