import Derived.Test.Qxb6602709aW6
namespace Go.Proofs.Qxb6602709a
open Go.RowKit Kit
set_option linter.unusedVariables false

/-- what both Int and the model hand back at an integer encoding -/
def out (f : Nat → Int) (len : Nat) : Int × Bool :=
  if (f 1 == 45) then Pl.res true (Pl.V f 2 (len - 3)) else Pl.res false (Pl.V f 1 (len - 2))

theorem int_enc (B len cap : Nat) (f : Nat → Int) (w : World) (hle : len ≤ cap) (hmax : len ≤ 1048576)
    (hc : ∀ i, i < len → w.cell? ⟨B, i, none⟩ = some (.int .u8 (f i))) (h105 : f 0 = 105) (henc : Enc f len) :
    Calls Try.prog 8 #[.agg #[.slice (some ⟨B, 0, none⟩) len cap]] w fun e w' => e = .returned (.tuple #[.int .i64 (out f len).1, .bool (out f len).2]) ∧ Below w.heap.size w w' := by
  rcases henc with ⟨h3, hneg, hd⟩ | ⟨h4, hneg, hd⟩
  · unfold out; rw [hneg]
    exact int_pos B len cap f w h3 hle hmax hc h105 hneg hd
  · unfold out; rw [hneg]
    exact int_neg B len cap f w h4 hle hmax hc h105 hneg hd

theorem model_enc (B len cap : Nat) (f : Nat → Int) (w : World) (hle : len ≤ cap) (hmax : len ≤ 1048576)
    (hc : ∀ i, i < len → w.cell? ⟨B, i, none⟩ = some (.int .u8 (f i))) (henc : Enc f len) :
    Calls Try.prog 10 #[.slice (some ⟨B, 0, none⟩) len cap] w fun e w' => e = .returned (.tuple #[.int .i64 (out f len).1, .bool (out f len).2]) ∧ Below w.heap.size w w' := by
  rcases henc with ⟨h3, hneg, hd⟩ | ⟨h4, hneg, hd⟩
  · unfold out; rw [hneg]
    obtain ⟨n, rfl⟩ : ∃ n, len = n + 2 := ⟨len - 2, by omega⟩
    exact model_pos B n cap f w (by omega) hmax hle hc hneg hd
  · unfold out; rw [hneg]
    obtain ⟨n, rfl⟩ : ∃ n, len = n + 3 := ⟨len - 3, by omega⟩
    exact model_neg B n cap f w (by omega) hmax hle hc hneg hd

set_option maxHeartbeats 400000 in
theorem law_int (x : Addr) (len cap : Nat) (f : Nat → Int) (w : World) (h0 : 0 < len) (hmax : len ≤ 1048576)
    (hsrc : ∀ i, i < len → w.cell? (x.add i) = some (.int .u8 (f i))) (hv : f 0 = 105) :
    Calls Try.prog 3 #[.slice (some x) len cap] w fun e w' => e = .returned (.bool true) ∧ Below w.heap.size w w' := by
  have hl0 : ((len : Int) == 0) = false := by simp; omega
  have hne : (f 0 != 105) = false := by simpa using hv
  have HS := hid hsrc
  have HV := hid hv
  clear hsrc hv
  go_enter Try.func3, Try.ntmps3
  go_wp2_with fail
  refine (bytes_yes _ _ _ _ hmax).mono ?_
  rintro e w' ⟨rfl, rfl⟩
  go_wp2_with fail
  refine (clone_row x len cap f _ hmax HS.out).mono ?_
  rintro e w1 ⟨rfl, hb1, hc1⟩
  have HB1 := hid hb1
  have HC1 := hid hc1
  have hs1 := hb1.size
  have c0 := hc1 0 h0
  have hlt1 := World.block_lt_of_cell? _ _ c0
  clear hb1 hc1
  go_wp2_with fail
  refine (of_any _ rfl _ len len rfl _).mono ?_
  rintro e w' ⟨rfl, rfl⟩
  go_wp2_with fail
  refine (enc_any _ len len f _ hmax ?_ HV.out).mono ?_
  · exact fun i hi => cell_later (((Below.refl _ _).alloc (Nat.le_refl _) _).alloc (by simp) _) (HC1.out i hi)
  rintro e w' ⟨⟨r, rfl, hr⟩, rfl⟩
  cases r
  · go_wp2
    go_ret
    exact ⟨rfl, (HB1.out.alloc hs1 _).alloc (by simp; omega) _⟩
  · have HENC := hid (hr rfl)
    clear hr
    go_wp2_with fail
    refine (int_enc _ len len f _ (Nat.le_refl _) hmax ?_ HV.out HENC.out).mono ?_
    · exact fun i hi => cell_later (((Below.refl _ _).alloc (Nat.le_refl _) _).alloc (by simp) _) (HC1.out i hi)
    rintro e w2 ⟨rfl, hb2⟩
    have HB2 := hid hb2
    clear hb2
    go_wp2_with fail
    refine (model_enc _ len len f _ (Nat.le_refl _) hmax ?_ HENC.out).mono ?_
    · exact fun i hi => cell_later HB2.out (cell_later (((Below.refl _ _).alloc (Nat.le_refl _) _).alloc (by simp) _) (HC1.out i hi))
    rintro e w3 ⟨rfl, hb3⟩
    have HB3 := hid hb3
    clear hb3
    go_wp2
    go_ret
    refine ⟨?_, ?_⟩
    · rfl
    · have h2 := HB2.out.size
      refine (((HB1.out.alloc hs1 _).alloc (by simp; omega) _).trans (HB2.out.mono (by simp; omega))).trans (HB3.out.mono ?_)
      simp at h2
      omega

end Go.Proofs.Qxb6602709a
