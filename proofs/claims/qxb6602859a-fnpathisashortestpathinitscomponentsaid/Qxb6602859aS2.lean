import Derived.Test.Qxb6602859aS1
import Derived.BigQuiet
namespace Go.Proofs.Qxb6602859a
open Go.RowKit Kit
set_option linter.unusedVariables false
set_option linter.unusedSimpArgs false

/-- the cells of a slice that came in -/
def Cel (w : World) (a : Option Addr) (n : Nat) (f : Nat → Value) : Prop := ∀ i, i < n → ∃ x, a = some x ∧ w.cell? (x.add i) = some (f i)

theorem Cel.below {w w' : World} {a : Option Addr} {n : Nat} {f : Nat → Value} (h : Cel w a n f) (hb : Below w.heap.size w w') : Cel w' a n f := fun i hi => by
  obtain ⟨x, e, c⟩ := h i hi
  exact ⟨x, e, cell_later hb c⟩

set_option maxHeartbeats 1000000 in
theorem zz15_any (z1 z2 : Int) (a0 a1 a2 : Option Addr) (n0 n1 n2 c0 c1 c2 : Nat) (u v m : Int) (w : World) :
    Calls Try.prog 15 #[.int .i64 z1, .int .i64 z2, .slice a0 n0 c0, .slice a1 n1 c1, .slice a2 n2 c2, .int .i32 u, .int .i32 v, .int .u8 m] w fun e w' => RetB e ∧ w' = w := by
  go_enter Try.func15, Try.ntmps15
  go_wp2
  all_goals
    go_ret
    exact ⟨⟨_, rfl⟩, rfl⟩

set_option maxHeartbeats 1000000 in
theorem zz19_any (z1 z2 : Int) (a0 a1 a2 : Option Addr) (n0 n1 n2 c0 c1 c2 : Nat) (u v u2 m : Int) (w : World) :
    Calls Try.prog 19 #[.int .i64 z1, .int .i64 z2, .slice a0 n0 c0, .slice a1 n1 c1, .slice a2 n2 c2, .int .i32 u, .int .i32 v, .int .i32 u2, .int .u8 m] w fun e w' => RetB e ∧ w' = w := by
  go_enter Try.func19, Try.ntmps19
  go_wp2
  all_goals
    go_ret
    exact ⟨⟨_, rfl⟩, rfl⟩

theorem below_drewN {B : Nat} {w w' : World} (h : Below B w w') (q : Nat) : Below B w (w'.drewN q) := ⟨h.os, h.tape, h.output, h.size, h.block⟩

/-- the graph is as it ought to be -/
structure WfZ (z : Int) (no nt nk : Nat) (oz tz : Nat → Int) (n : Nat) : Prop where
  nodes : z = (n : Int)
  small : n ≤ 65536
  len : no = n + 1
  first : 0 ≤ oz 0
  mono : ∀ i, i < n → oz i ≤ oz (i + 1)
  le1 : oz n ≤ (nt : Int)
  le2 : oz n ≤ (nk : Int)
  tgt : ∀ e : Nat, oz 0 ≤ (e : Int) → (e : Int) < oz n → 0 ≤ tz e ∧ tz e < (n : Int)

def WfOut (z : Int) (no nt nk : Nat) (oz tz : Nat → Int) (w : World) (e : Ending) (w' : World) : Prop :=
  Below w.heap.size w w' ∧ (e = .returned (.bool false) ∨ (e = .returned (.bool true) ∧ ∃ n, WfZ z no nt nk oz tz n))

set_option maxHeartbeats 2000000 in
theorem zzwf_any (z : Int) (no nt nk oc tc kc : Nat) (oa ta ka : Option Addr) (oz tz : Nat → Int) (w : World)
    (hO : Cel w oa no (fun i => .int .i32 (oz i))) (hT : Cel w ta nt (fun i => .int .i32 (tz i))) (hoz : ∀ i, i < no → oz i ≤ 2147483647) (htz : ∀ i, i < nt → tz i ≤ 2147483647) :
    Calls Try.prog 10 #[.int .i64 z, .slice oa no oc, .slice ta nt tc, .slice ka nk kc] w fun e w' => WfOut z no nt nk oz tz w e w' := by
  have B0 := hid (Below.refl w.heap.size w)
  have HO := hid hO
  have HT := hid hT
  have HZ := hid hoz
  have HTZ := hid htz
  clear hO hT hoz htz
  by_cases h1 : z < 0
  · have q1 : decide (z < 0) = true := by simp [h1]
    clear h1
    go_enter Try.func10, Try.ntmps10
    go_wp2
    go_ret
    exact ⟨B0.out, .inl rfl⟩
  have q1 : decide (z < 0) = false := by simp; omega
  by_cases h2 : 65536 < z
  · have q2 : decide (65536 < z) = true := by simp [h2]
    have H1 := hid h1
    clear h1 h2
    go_enter Try.func10, Try.ntmps10
    go_wp2
    go_ret
    exact ⟨B0.out, .inl rfl⟩
  have q2 : decide (65536 < z) = false := by simp; omega
  obtain ⟨n, rfl⟩ : ∃ n : Nat, z = (n : Int) := ⟨z.toNat, by omega⟩
  have hn : n ≤ 65536 := by omega
  by_cases h3 : ¬ no = n + 1
  · have q3 : ((no : Int) != (n : Int) + 1) = true := by simp; omega
    have H1 := hid h1
    have H2 := hid h2
    have H3 := hid h3
    clear h1 h2 h3
    go_enter Try.func10, Try.ntmps10
    go_wp2
    go_ret
    exact ⟨B0.out, .inl rfl⟩
  have h3 : no = n + 1 := Classical.not_not.1 h3
  have q3 : ((no : Int) != (n : Int) + 1) = false := by simp; omega
  have H3 := hid h3
  have hno0 : (0 : Int) < (no : Int) := by omega
  clear h1 h2
  obtain ⟨x, rfl, c0⟩ := HO.out 0 (by omega)
  have c0' : w.cell? x = some (.int .i32 (oz 0)) := by rw [Addr.add_zero'] at c0; exact c0
  clear h3
  by_cases h4 : oz 0 < 0
  · have q4 : decide (oz 0 < 0) = true := by simp [h4]
    clear h4
    go_enter Try.func10, Try.ntmps10
    go_wp2
    go_ret
    exact ⟨B0.out, .inl rfl⟩
  have q4 : decide (oz 0 < 0) = false := by simp; omega
  have H4 := hid h4
  clear h4
  go_enter Try.func10, Try.ntmps10
  go_wp2
  go_loopw [9] (fun i wr => ∃ j : Nat, j ≤ n ∧ i = .int .i64 (j : Int) ∧ Hid (Below w.heap.size w wr) ∧ Hid (∀ i, i < j → oz i ≤ oz (i + 1))) (fun i _ => n - (intOf i).toNat)
  case atStart => exact ⟨0, Nat.zero_le _, rfl, B0, hid (fun i h => by omega)⟩
  case round =>
    obtain ⟨j, hj, rfl, HB, HM⟩ := hrel
    obtain ⟨w1, rfl⟩ : ∃ w1, w1 = wr := ⟨_, rfl⟩
    by_cases hlt : j < n
    · obtain ⟨x', ex, cj⟩ := HO.out j (by have := H3.out; omega)
      obtain ⟨x'', ex', cj'⟩ := HO.out (j + 1) (by have := H3.out; omega)
      cases ex
      cases ex'
      have cj := cell_later HB.out cj
      have cj' : w1.cell? ⟨x.block, x.off + (j + 1), none⟩ = some (.int .i32 (oz (j + 1))) := by
        have h := cell_later HB.out cj'
        simpa [Addr.add] using h
      have i0 : (0 : Int) ≤ (j : Int) := by omega
      have i1 : (j : Int) < (no : Int) := by have := H3.out; omega
      have i2 : (0 : Int) ≤ (j : Int) + 1 := by omega
      have i3 : (j : Int) + 1 < (no : Int) := by have := H3.out; omega
      have wj : IntKind.i64.wrap ((j : Int) + 1) = (j : Int) + 1 := by rw [IntKind.wrap_i64]; omega
      by_cases h5 : oz (j + 1) < oz j
      · have q5 : decide (oz (j + 1) < oz j) = true := by simp [h5]
        clear h5
        go_wp2
        go_quiet (fail)
        go_wp2
        go_ret
        exact ⟨below_drewN HB.out _, .inl rfl⟩
      · have q5 : decide (oz (j + 1) < oz j) = false := by simp; omega
        have H5 := hid h5
        clear h5
        go_wp2
        go_quiet (fail)
        go_wp2
        go_roundw
        case rel =>
          refine ⟨j + 1, by omega, by go_num, hid (below_drewN HB.out _), hid (fun i hi => ?_)⟩
          rcases Nat.lt_or_ge i j with h | h
          · exact HM.out i h
          · obtain rfl : i = j := by omega
            have := H5.out
            omega
        case measure => simp [intOf]; omega
    · obtain rfl : n = j := by omega
      clear hj hlt
      have hge : ∀ i, i ≤ n → oz 0 ≤ oz i := by
        intro i
        induction i with
        | zero => intro _; exact Int.le_refl _
        | succ i ih => intro hi; have := ih (by omega); have := HM.out i (by omega); omega
      obtain ⟨o0, e0⟩ : ∃ o0 : Nat, oz 0 = (o0 : Int) := ⟨(oz 0).toNat, by have := H4.out; omega⟩
      obtain ⟨m, em⟩ : ∃ m : Nat, oz n = (m : Int) := ⟨(oz n).toNat, by have := H4.out; have := hge n (Nat.le_refl _); omega⟩
      have hom : o0 ≤ m := by have := hge n (Nat.le_refl _); omega
      have hm : m ≤ 2147483647 := by have := HZ.out n (by have := H3.out; omega); omega
      obtain ⟨x', ex, cn⟩ := HO.out n (by have := H3.out; omega)
      cases ex
      have cn : w1.cell? (x.add n) = some (.int .i32 (m : Int)) := by have h := cell_later HB.out cn; rw [← em]; exact h
      have c00 : w1.cell? x = some (.int .i32 (o0 : Int)) := by have h := cell_later HB.out c0'; rw [← e0]; exact h
      have HE := hid (And.intro e0 em)
      have q4 : decide ((o0 : Int) < 0) = false := by simp
      have i0 : (0 : Int) ≤ (n : Int) := by omega
      have i1 : (n : Int) < (no : Int) := by have := H3.out; omega
      clear hge c0 c0' e0 em
      by_cases h6 : nt < m
      · have q6 : decide ((nt : Int) < (m : Int)) = true := by simp; omega
        have h6' : ¬ m ≤ nt := by omega
        go_wp2
        go_ret
        exact ⟨HB.out, .inl rfl⟩
      have q6 : decide ((nt : Int) < (m : Int)) = false := by simp; omega
      by_cases h7 : nk < m
      · have q7 : decide ((nk : Int) < (m : Int)) = true := by simp; omega
        have h6' : m ≤ nt := by omega
        have h7' : ¬ m ≤ nk := by omega
        go_wp2
        go_ret
        exact ⟨HB.out, .inl rfl⟩
      have q7 : decide ((nk : Int) < (m : Int)) = false := by simp; omega
      have H67 := hid (And.intro h6 h7)
      have h6' : m ≤ nt := by omega
      have h7' : m ≤ nk := by omega
      go_wp2
      go_loopw [11] (fun i wr => ∃ j : Nat, o0 ≤ j ∧ j ≤ m ∧ i = .int .i64 (j : Int) ∧ w1 = wr ∧ Hid (∀ e, o0 ≤ e → e < j → 0 ≤ tz e ∧ tz e < (n : Int))) (fun i _ => m - (intOf i).toNat)
      case atStart => exact ⟨o0, Nat.le_refl _, hom, rfl, rfl, hid (fun e h h' => by omega)⟩
      case round =>
        obtain ⟨j, hj0, hj, rfl, rfl, HP⟩ := hrel
        by_cases hlt : j < m
        · have hjn : j < nt := by have := H67.out.1; omega
          obtain ⟨y, rfl, cj⟩ := HT.out j hjn
          have cj := cell_later HB.out cj
          have i2 : (0 : Int) ≤ (j : Int) := by omega
          have i3 : (j : Int) < (nt : Int) := by omega
          by_cases h8 : tz j < 0
          · have q8 : decide (tz j < 0) = true := by simp [h8]
            clear h8
            go_wp2
            go_ret
            exact ⟨HB.out, .inl rfl⟩
          have q8 : decide (tz j < 0) = false := by simp; omega
          have i4 : 0 ≤ tz j := by omega
          have i5 : tz j ≤ 2147483647 := HTZ.out j hjn
          by_cases h9 : (n : Int) ≤ tz j
          · have q9 : decide ((n : Int) ≤ tz j) = true := by simp [h9]
            have H8 := hid h8
            clear h8 h9
            go_wp2
            go_ret
            exact ⟨HB.out, .inl rfl⟩
          have q9 : decide ((n : Int) ≤ tz j) = false := by simp; omega
          have H89 := hid (And.intro h8 h9)
          clear h8 h9
          go_wp2
          go_roundw
          case rel =>
            refine ⟨j + 1, by omega, by omega, by go_num, trivial, hid (fun e h h' => ?_)⟩
            rcases Nat.lt_or_ge e j with h1 | h1
            · exact HP.out e h h1
            · obtain rfl : e = j := by omega
              have h8 := H89.out.1
              have h9 := H89.out.2
              omega
          case measure => simp [intOf]; omega
        · obtain rfl : m = j := by omega
          clear hj hlt
          go_wp2
          go_ret
          refine ⟨HB.out, .inr ⟨rfl, n, rfl, hn, H3.out, by have := H4.out; omega, HM.out, ?_, ?_, ?_⟩⟩
          · rw [HE.out.2]; have := H67.out.1; omega
          · rw [HE.out.2]; have := H67.out.2; omega
          · rw [HE.out.1, HE.out.2]
            intro e h h'
            exact HP.out e (by omega) (by omega)

end Go.Proofs.Qxb6602859a
