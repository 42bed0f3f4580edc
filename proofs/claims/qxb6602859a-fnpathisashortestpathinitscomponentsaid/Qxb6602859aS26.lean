import Derived.Test.Qxb6602859aS21
namespace Go.Proofs.Qxb6602859a
open Go.RowKit Kit
set_option linter.unusedVariables false
set_option linter.unusedSimpArgs false

set_option maxHeartbeats 4000000 in
theorem hasEdge_any (n nt nk oc tc kc x y : Nat) (m : Int) (oa ta ka : Option Addr) (off T : Nat → Nat) (tz kz : Nat → Int) (w : World)
    (rO : Row w 21 (.slice oa (n + 1) oc) (n + 1) (fun i => .int .i32 ((off i : Nat) : Int)))
    (rT : Row w 21 (.slice ta nt tc) nt (fun i => .int .i32 (tz i)))
    (rK : Row w 5 (.slice ka nk kc) nk (fun i => .int .u8 (kz i))) (hF : GF n nt nk off tz T) (he : Ed n off T (kmB kz m) x y) :
    Calls Try.prog 18 #[.slice oa (n + 1) oc, .slice ta nt tc, .slice ka nk kc, .int .u8 m, .int .i32 (x : Int), .int .i32 (y : Int)] w fun e w' => e = .returned (.bool true) ∧ w' = w := by
  obtain ⟨hx, e0, h1, h2, h3, h4⟩ := he
  have hn := hF.small
  have hnt := hF.nt
  have hen : e0 < off n := Nat.lt_of_lt_of_le h2 (hF.le (x := x + 1) (by omega) (Nat.le_refl _))
  have he0 : e0 < nt := Nat.lt_of_lt_of_le hen hF.le1
  obtain ⟨og, eo, co⟩ := rO.slice.2.2 x (by omega)
  subst eo
  obtain ⟨og', eo, co1⟩ := rO.slice.2.2 (x + 1) (by omega)
  cases eo
  have HRW := hid (And.intro rT rK)
  have HF := hid hF
  have H12 := hid (And.intro h1 (And.intro h2 (And.intro h3 (And.intro h4 hen))))
  obtain ⟨o0, ho0⟩ : ∃ o0, off x = o0 := ⟨_, rfl⟩
  obtain ⟨o1, ho1⟩ : ∃ o1, off (x + 1) = o1 := ⟨_, rfl⟩
  rw [ho0] at co h1
  rw [ho1] at co1 h2
  have HO := hid (And.intro ho0 ho1)
  have i0 : (0 : Int) ≤ (x : Int) := by omega
  have i1 : (x : Int) < (n : Int) + 1 := by omega
  have i2 : (0 : Int) ≤ (x : Int) + 1 := by omega
  have i3 : (x : Int) + 1 < (n : Int) + 1 := by omega
  clear rO rT rK hF ho0 ho1 hen h4
  go_enter Try.func18, Try.ntmps18
  go_wp2
  go_loopw [13] (fun i wr => ∃ j : Nat, o0 ≤ j ∧ j ≤ e0 ∧ i = .int .i32 (j : Int) ∧ w = wr) (fun i _ => e0 + 1 - (intOf i).toNat)
  case atStart => exact ⟨o0, Nat.le_refl _, h1, rfl, rfl⟩
  case round =>
    obtain ⟨j, hj0, hj, rfl, rfl⟩ := hrel
    have hj1 : j < o1 := by omega
    have q0 : decide ((j : Int) < (o1 : Int)) = true := by simp; omega
    have hjn : j < off n := by have := H12.out.2.2.2.2; omega
    have hz0 : off 0 ≤ j := by have h := HF.out.le (Nat.zero_le x) (show x ≤ n by omega); have := HO.out.1; omega
    have hjt : j < nt := by omega
    have hjk : j < nk := Nat.lt_of_lt_of_le hjn HF.out.le2
    obtain ⟨tg, et, ct⟩ := HRW.out.1.slice.2.2 j hjt
    obtain ⟨kg, ek, ck⟩ := HRW.out.2.slice.2.2 j hjk
    subst et
    subst ek
    obtain ⟨hte, htn⟩ := HF.out.tgt j hz0 hjn
    rw [hte] at ct
    have i4 : (0 : Int) ≤ (j : Int) := by omega
    have i5 : (j : Int) < (nt : Int) := by omega
    have i6 : (j : Int) < (nk : Int) := by omega
    obtain ⟨t, ht⟩ : ∃ t, T j = t := ⟨_, rfl⟩
    rw [ht] at ct
    obtain ⟨kv, hkv⟩ : ∃ kv, kz j = kv := ⟨_, rfl⟩
    rw [hkv] at ck
    have HT := hid (And.intro ht hkv)
    clear hte ht hkv htn
    by_cases hty : t = y
    · have q1 : ((t : Int) == (y : Int)) = true := by simp [hty]
      by_cases hkm : (bits .and .u8 kv m == 0) = true
      · have q2 : (bits .and .u8 kv m != 0) = false := by simp at hkm ⊢; exact hkm
        have hne : j ≠ e0 := fun q => by
          have h3' := H12.out.2.2.1
          rw [← q] at h3'
          simp only [kmB, HT.out.2] at h3'
          rw [hkm] at h3'
          cases h3'
        have HNE := hid hne
        clear hne hkm hty
        go_wp2
        go_roundw
        case rel => exact ⟨j + 1, by omega, by have := HNE.out; omega, by go_num, trivial⟩
        case measure => have := HNE.out; simp [intOf]; omega
      · have q2 : (bits .and .u8 kv m != 0) = true := by simp at hkm ⊢; exact hkm
        clear hkm hty
        go_wp2
        go_ret
        exact ⟨rfl, rfl⟩
    · have q1 : ((t : Int) == (y : Int)) = false := by simp; omega
      have hne : j ≠ e0 := fun q => hty (by rw [← HT.out.1, q]; exact H12.out.2.2.2.1)
      have HNE := hid hne
      clear hne hty
      go_wp2
      go_roundw
      case rel => exact ⟨j + 1, by omega, by have := HNE.out; omega, by go_num, trivial⟩
      case measure => have := HNE.out; simp [intOf]; omega

end Go.Proofs.Qxb6602859a
