import Derived.Test.Qxb6602792aW1
namespace Go.Proofs.Qxb6602792a
open Go.RowKit Kit
set_option linter.unusedVariables false

theorem Try.info9 : (Try.prog.info? 9).map (fun i => (i.zero, i.size, i.bytes)) = some (some (.string ByteArray.empty), 1, 16) := by kernel_rfl

set_option maxHeartbeats 400000 in
theorem clone_nil (w : World) :
    Calls Try.prog 9 #[.slice none 0 0] w fun e w' => e = .returned (.slice none 0 0) ∧ w' = w := by
  have h0 := fun u => Lib.run_eql_slice_nil (P := Try.prog) u 22 9 none 0 0 0 0 Try.underlying22
  go_enter Try.func9, Try.ntmps9
  go_wp2
  go_ret
  exact ⟨rfl, rfl⟩

def half (f : Nat → ByteArray) (k : Nat) (i : Nat) : Value := if i < k then .string (f i) else .string ByteArray.empty

theorem half_step (f : Nat → ByteArray) (k : Nat) : ∀ i, (if i = k then Value.string (f k) else half f k i) = half f (k + 1) i := by
  intro i
  unfold half
  by_cases h : i = k
  · subst h; simp
  · by_cases h2 : i < k
    · rw [if_neg h, if_pos h2, if_pos (by omega)]
    · rw [if_neg h, if_neg h2, if_neg (by omega)]

set_option maxHeartbeats 400000 in
theorem clone_some (x : Addr) (n cap : Nat) (f : Nat → ByteArray) (w : World) (h : n ≤ 1048576)
    (hsrc : ∀ i, i < n → w.cell? (x.add i) = some (.string (f i))) :
    Calls Try.prog 9 #[.slice (some x) n cap] w fun e w' => e = .returned (.slice (some ⟨w.heap.size, 0, none⟩) n n) ∧ w'.rowIs w.heap.size 9 n (fun i => .string (f i)) ∧ Below w.heap.size w w' ∧ w'.heap.size = w.heap.size + 1 := by
  have h0 := fun u => Lib.run_eql_slice_nil (P := Try.prog) u 22 9 (some x) n cap 0 0 Try.underlying22
  have hmk := fun u => run_make_row' (P := Try.prog) 22 9 (.string ByteArray.empty) 16 Try.underlying22 Try.info9 rfl .i64 .i64 n (by omega) (by omega) u
  have HS := hid hsrc
  clear hsrc
  go_enter Try.func9, Try.ntmps9
  go_wp2
  clear h0 hmk
  go_loopw [4] (fun i wr => ∃ k : Nat, k ≤ n ∧ i = .int .i64 k ∧ wr.rowIs w.heap.size 9 n (half f k) ∧ Below w.heap.size w wr ∧ wr.heap.size = w.heap.size + 1) (fun i _ => n - (intOf i).toNat)
  case atStart => exact ⟨0, Nat.zero_le _, rfl, World.rowIs_made w _ n 9, (Below.refl _ _).alloc (Nat.le_refl _) _, by simp⟩
  case round =>
    obtain ⟨k, hk, rfl, hrow, hb, hsz⟩ := hrel
    have HR := hid hrow
    have HB := hid hb
    have HZ := hid hsz
    by_cases hlt : k < n
    · have c1 := hrow.cell hlt
      have f1 := hrow.frozen k
      have c2 : wr.cell? (x.add k) = some (.string (f k)) := cell_later hb (HS.out k hlt)
      clear hrow hb hsz
      go_wp2
      go_roundw
      case rel =>
        refine ⟨k + 1, by omega, by go_num, ?_, HB.out.setCell (Nat.le_refl _) _, ?_⟩
        · exact (HR.out.set k _).congr (fun i _ => half_step f k i)
        · rw [← HZ.out]; simp [World.setCell]
      case measure => simp [intOf]; omega
    · clear hrow hb hsz
      go_wp2
      go_ret
      refine ⟨rfl, HR.out.congr (fun i hi => ?_), HB.out, HZ.out⟩
      unfold half
      rw [if_pos (by omega)]

def RetEq (n m : Nat) (f h : Nat → ByteArray) (e : Ending) : Prop := ∃ r : Bool, e = .returned (.bool r) ∧ (r = true ↔ n = m ∧ ∀ i, i < n → f i = h i)

set_option maxHeartbeats 400000 in
theorem equal_len (a b : Option Addr) (n m c d : Nat) (f h : Nat → ByteArray) (w : World) (hne : n ≠ m) :
    Calls Try.prog 12 #[.slice a n c, .slice b m d] w fun e w' => RetEq n m f h e ∧ w' = w := by
  have h1 : ((n : Int) != (m : Int)) = true := by simp; omega
  go_enter Try.func12, Try.ntmps12
  go_wp2
  go_ret
  exact ⟨⟨false, rfl, (fun hh => by cases hh), (fun hh => absurd hh.1 hne)⟩, rfl⟩

set_option maxHeartbeats 400000 in
theorem equal_none (a b : Option Addr) (c d : Nat) (f h : Nat → ByteArray) (w : World) :
    Calls Try.prog 12 #[.slice a 0 c, .slice b 0 d] w fun e w' => RetEq 0 0 f h e ∧ w' = w := by
  go_enter Try.func12, Try.ntmps12
  go_wp2
  refine wp_loop_rounds 1 ?_
  rw [rounds_succ]
  go_wp2
  go_ret
  exact ⟨⟨true, rfl, fun _ => ⟨rfl, fun i hi => by omega⟩, fun _ => rfl⟩, rfl⟩

set_option maxHeartbeats 400000 in
theorem equal_some (g o g' o' n c d : Nat) (f h : Nat → ByteArray) (w : World) (hn : n ≤ 1048576)
    (hc : ∀ i, i < n → w.cell? ⟨g, o + i, none⟩ = some (.string (f i))) (hd : ∀ i, i < n → w.cell? ⟨g', o' + i, none⟩ = some (.string (h i))) :
    Calls Try.prog 12 #[.slice (some ⟨g, o, none⟩) n c, .slice (some ⟨g', o', none⟩) n d] w fun e w' => RetEq n n f h e ∧ ∃ q, w' = w.drewN q := by
  have HC := hid hc
  have HD := hid hd
  clear hc hd
  go_enter Try.func12, Try.ntmps12
  go_wp2
  go_loopw [5] (fun i wr => ∃ k : Nat, k ≤ n ∧ i = .int .i64 k ∧ Hid (∀ j, j < k → f j = h j) ∧ ∃ q, wr = w.drewN q) (fun i _ => n - (intOf i).toNat)
  case atStart => exact ⟨0, Nat.zero_le _, rfl, fun j hj => by omega, 0, rfl⟩
  case round =>
    obtain ⟨k, hk, rfl, hsame, q, rfl⟩ := hrel
    by_cases hlt : k < n
    · have c1 := HC.out k hlt
      have c2 := HD.out k hlt
      cases he : ((f k).toList == (h k).toList)
      · go_wp2
        go_quiet (fail)
        go_wp2
        go_ret
        exact ⟨⟨false, rfl, (fun hh => by cases hh), (fun hh => absurd (hh.2 k hlt) (bytes_ne he))⟩, _, (World.drewN_drewN _ _ _)⟩
      · go_wp2
        go_quiet (fail)
        go_wp2
        go_roundw
        case rel =>
          refine ⟨k + 1, by omega, by go_num, ?_, _, rfl⟩
          intro j hj
          rcases Nat.lt_or_ge j k with h | h
          · exact hsame.out j h
          · obtain rfl : j = k := by omega
            exact bytes_eq he
        case measure => simp [intOf]; omega
    · go_wp2
      go_ret
      exact ⟨⟨true, rfl, fun _ => ⟨rfl, fun i hi => hsame.out i (by omega)⟩, fun _ => rfl⟩, _, rfl⟩

theorem equal_any {v u : Value} {n m : Nat} {f h : Nat → ByteArray} (w : World) (hn : n ≤ 1048576) (hv : StrF w v n f) (hu : StrF w u m h) :
    Calls Try.prog 12 #[v, u] w fun e w' => RetEq n m f h e ∧ ∃ q, w' = w.drewN q := by
  by_cases hne : n = m
  · subst hne
    obtain ⟨a, cap, rfl, hv⟩ := hv
    obtain ⟨b, cap', rfl, hu⟩ := hu
    by_cases h0 : n = 0
    · subst h0
      exact (equal_none a b cap cap' f h w).mono fun e w' ⟨r, hw⟩ => ⟨r, 0, hw⟩
    · obtain ⟨g, o, rfl, hc⟩ := hv.resolve_left h0
      obtain ⟨g', o', rfl, hd⟩ := hu.resolve_left h0
      exact equal_some g o g' o' n cap cap' f h w hn hc hd
  · obtain ⟨a, cap, rfl, hv⟩ := hv
    obtain ⟨b, cap', rfl, hu⟩ := hu
    exact (equal_len a b n m cap cap' f h w hne).mono fun e w' ⟨r, hw⟩ => ⟨r, 0, hw⟩

end Go.Proofs.Qxb6602792a
