import Derived.Test.Qxb6602792aW3
namespace Go.Proofs.Qxb6602792a
open Go.RowKit Kit
set_option linter.unusedVariables false

theorem law9 : Maps.Keyed Try.prog 9 := Maps.string_keyed Try.underlying9
theorem zero4 (w : World) : (zeroValue 4).run Try.prog w = .ok (.bool false) w := by kernel_rfl
theorem lit_inj : ∀ x y : List UInt8, Lit.string x = Lit.string y → x = y := fun x y h => by cases h; rfl
theorem lit_key : ∀ x : List UInt8, WideAt.IsKeyLit (Lit.string x) := fun x => by simp [WideAt.IsKeyLit]

abbrev SetS (w : World) (b n : Nat) (mem : List UInt8 → Bool) (sz : Nat) : Prop := IsSet Lit.string w Try.prog 9 4 b n mem sz

theorem key9 {s : ByteArray} (hs : s.size ≤ maxLen) : keyOf Try.prog 9 (.string s) = some (.string s.data.toList) := WideMaps.keyOf_string_mk Try.underlying9 hs

/-- which strings, and how many different ones, lie among the first k -/
def memF (f : Nat → ByteArray) : Nat → List UInt8 → Bool
  | 0, _ => false
  | k + 1, y => decide (y = (f k).data.toList) || memF f k y
def nd (f : Nat → ByteArray) : Nat → Nat
  | 0 => 0
  | k + 1 => if memF f k (f k).data.toList then nd f k else nd f k + 1

theorem data_inj {a b : ByteArray} (h : a.data.toList = b.data.toList) : a = b := by
  cases a; cases b
  simp only [ByteArray.mk.injEq]
  exact Array.toList_inj.1 h

theorem memF_iff (f : Nat → ByteArray) (s : ByteArray) : ∀ k, memF f k s.data.toList = true ↔ InF k f s
  | 0 => by simp [memF, InF]
  | k + 1 => by
    simp only [memF, Bool.or_eq_true, decide_eq_true_eq, memF_iff f s k]
    constructor
    · rintro (h | ⟨i, hi, h⟩)
      · exact ⟨k, by omega, (data_inj h).symm⟩
      · exact ⟨i, by omega, h⟩
    · rintro ⟨i, hi, h⟩
      rcases Nat.lt_or_ge i k with h1 | h1
      · exact .inr ⟨i, h1, h⟩
      · obtain rfl : i = k := by omega
        exact .inl (by rw [h])

theorem nd_le (f : Nat → ByteArray) : ∀ k, nd f k ≤ k
  | 0 => Nat.le_refl _
  | k + 1 => by
    have := nd_le f k
    simp only [nd]; split <;> omega

set_option maxHeartbeats 400000 in
theorem add_C_in (nb mb m sz : Nat) (mem : List UInt8 → Bool) (s : ByteArray) (w : World) (hs : s.size ≤ maxLen)
    (c1 : w.cell? ⟨nb, 1, none⟩ = some (.map (some mb))) (hset : SetS w mb m mem sz) (hmem : mem s.data.toList = true) :
    Calls Try.prog 22 #[.pointer (some ⟨nb, 0, none⟩), .string s] w fun e w' => e = .returned (.bool false) ∧ w' = w := by
  have hnil := fun u => run_eql_map_nil (P := Try.prog) u 25 9 4 (some mb) Try.underlying25
  have hlook := hset.look law9 (t := 25) Try.underlying25 Try.underlying4 (zero4 _) (key9 hs)
  rw [hmem] at hlook
  clear hset
  go_enter Try.func22, Try.ntmps22
  go_wp2
  go_ret
  exact ⟨rfl, rfl⟩

set_option maxHeartbeats 400000 in
theorem add_C_out (nb mb m sz : Nat) (mem : List UInt8 → Bool) (s : ByteArray) (w : World) (hs : s.size ≤ maxLen) (hm : m < maxLen)
    (c1 : w.cell? ⟨nb, 1, none⟩ = some (.map (some mb))) (hset : SetS w mb m mem sz) (hmem : mem s.data.toList = false) :
    Calls Try.prog 22 #[.pointer (some ⟨nb, 0, none⟩), .string s] w fun e w' => e = .returned (.bool true) ∧ SetS w' mb (m + 1) (fun y => decide (y = s.data.toList) || mem y) (sz + 1) ∧ w.grownBy w' (some mb) := by
  have hnil := fun u => run_eql_map_nil (P := Try.prog) u 25 9 4 (some mb) Try.underlying25
  have hlook := hset.look law9 (t := 25) Try.underlying25 Try.underlying4 (zero4 _) (key9 hs)
  rw [hmem] at hlook
  have HS := hid hset
  have HM := hid hmem
  clear hset
  go_enter Try.func22, Try.ntmps22
  go_wp2_with (at_mapUpdate; refine wpList_put_set _ rfl _ _ _ 25 rfl 9 4 law9 Try.underlying25 Try.underlying4 lit_inj lit_key mb m sz mem rfl HS.out hm _ s.data.toList rfl rfl (key9 hs) ?_; intro w1 h1 g1; have H1 := hid h1; have G1 := hid g1; clear h1 g1)
  go_ret
  have h := H1.out
  rw [HM.out] at h
  exact ⟨rfl, h, G1.out⟩

end Go.Proofs.Qxb6602792a
