import Derived.Test.Qxb6602792aX3
namespace Go.Proofs.Qxb6602792a
open Go.RowKit Kit
set_option linter.unusedVariables false

set_option maxHeartbeats 400000 in
set_option maxRecDepth 100000 in
theorem model_big {v u : Value} {n m : Nat} {f h : Nat → ByteArray} (b : Bool) (s : ByteArray) (w : World) (hv : ArgF w v n f) (hu : ArgF w u m h) (hs : s.size ≤ maxLen)
    (hbig : 4096 < n ∨ 4096 < m ∨ 65536 < s.size) :
    Calls Try.prog 3 #[v, .bool b, u, .string s] w fun e w' => e = .returned (.bool true) ∧ Below w.heap.size w w' := by
  have HZ := hid (zz8_any b s w hv hu hs)
  obtain ⟨a, ca, rfl, hn, -⟩ := hv.parts
  obtain ⟨d, cd, rfl, hm, -⟩ := hu.parts
  clear hv hu
  by_cases h1 : (4096 : Int) < n
  · go_enter Try.func3, Try.ntmps3
    go_wp2_with fail
    refine HZ.out.mono ?_
    rintro e w' ⟨⟨r, rfl⟩, hw⟩
    replace hw := hw.symm
    subst hw
    cases r
    all_goals
      go_wp2
      go_ret
      exact ⟨rfl, Below.refl _ _⟩
  by_cases h2 : (4096 : Int) < m
  · go_enter Try.func3, Try.ntmps3
    go_wp2_with fail
    refine HZ.out.mono ?_
    rintro e w' ⟨⟨r, rfl⟩, hw⟩
    replace hw := hw.symm
    subst hw
    cases r
    all_goals
      go_wp2
      go_ret
      exact ⟨rfl, Below.refl _ _⟩
  · have h3 : (65536 : Int) < s.size := by omega
    go_enter Try.func3, Try.ntmps3
    go_wp2_with fail
    refine HZ.out.mono ?_
    rintro e w' ⟨⟨r, rfl⟩, hw⟩
    replace hw := hw.symm
    subst hw
    cases r
    all_goals
      go_wp2
      go_ret
      exact ⟨rfl, Below.refl _ _⟩

set_option maxHeartbeats 2000000 in
set_option maxRecDepth 100000 in
theorem model_A {v u : Value} {n m : Nat} {f h : Nat → ByteArray} (s : ByteArray) (w : World) (hv : ArgF w v n f) (hu : ArgF w u m h) (hs : s.size ≤ maxLen)
    (hn : n ≤ 4096) (hm : m ≤ 4096) (hs2 : s.size ≤ 65536) (hfz : ∀ i, i < n → (f i).size ≤ maxLen) (hhz : ∀ i, i < m → (h i).size ≤ maxLen) (h16 : n < 16) :
    Calls Try.prog 3 #[v, .bool false, u, .string s] w fun e w' => e = .returned (.bool true) ∧ Below w.heap.size w w' := by
  have HZ := hid (zz8_any false s w hv hu hs)
  have HCV := hid (clone_own w hn hv)
  have HU := hid hu
  obtain ⟨a, ca, rfl, -, hc⟩ := hv.parts
  obtain ⟨d, cd, rfl, -, hd⟩ := hu.parts
  have HC := hid hc
  have HD := hid hd
  have HFZ := hid hfz
  have HHZ := hid hhz
  have q1 : decide ((4096 : Int) < n) = false := by simp; omega
  have q2 : decide ((4096 : Int) < m) = false := by simp; omega
  have q3 : decide ((65536 : Int) < s.size) = false := by simp; omega
  have hnil := fun u r => run_eql_map_nil (P := Try.prog) u 25 9 4 r Try.underlying25
  have hnn := fun u r => run_neq_map_nil (P := Try.prog) u 25 9 4 r Try.underlying25
  obtain ⟨i0, hi, hz0, hz1, hz2⟩ := info_parts Try.info9
  clear hv hu hc hd hfz hhz
  go_enter Try.func3, Try.ntmps3
  go_wp2_with fail
  refine HZ.out.mono ?_
  rintro e w' ⟨⟨r, rfl⟩, hw⟩
  replace hw := hw.symm
  subst hw
  cases r
  · go_wp2
    go_ret
    exact ⟨rfl, Below.refl _ _⟩
  go_wp2
  go_loop [9, 10] (fun z i => ∃ k : Nat, ∃ y : Int, k ≤ n ∧ i = .int .i64 k ∧ z = .int .i64 y) (fun _ i => n - (intOf i).toNat)
  case atStart => exact ⟨0, _, Nat.zero_le _, rfl, rfl⟩
  case round =>
    obtain ⟨k, y, hk, rfl, rfl⟩ := hrel
    by_cases hlt : k < n
    · obtain ⟨x, rfl, ck⟩ := HC.out k hlt
      go_wp2
      go_round
      case rel => exact ⟨k + 1, _, by omega, by go_num, rfl⟩
      case measure => simp [intOf]; omega
    · go_wp2
      go_loop [9, 11] (fun z i => ∃ k : Nat, ∃ y : Int, k ≤ m ∧ i = .int .i64 k ∧ z = .int .i64 y) (fun _ i => m - (intOf i).toNat)
      case atStart => exact ⟨0, _, Nat.zero_le _, rfl, rfl⟩
      case round =>
        obtain ⟨t, y, ht, rfl, rfl⟩ := hrel
        by_cases hlt2 : t < m
        · obtain ⟨x, rfl, ck⟩ := HD.out t hlt2
          go_wp2
          go_round
          case rel => exact ⟨t + 1, _, by omega, by go_num, rfl⟩
          case measure => simp [intOf]; omega
        · by_cases hy : 1048576 < y
          · go_wp2
            go_ret
            exact ⟨rfl, Below.refl _ _⟩
          · go_wp2_with fail
            refine HCV.out.mono ?_
            rintro e w1 ⟨fv, rfl, ⟨fa, fc, rfl⟩, ho1, hb1⟩
            have HO1 := hid ho1
            have HB1 := hid hb1
            clear ho1 hb1
            go_wp2_with fail
            refine (clone_own _ hm (HU.out.later HB1.out)).mono ?_
            rintro e w2 ⟨kv, rfl, ⟨ka, kc, rfl⟩, ho2, hb2⟩
            have HO2 := hid ho2
            have HB2 := hid hb2
            clear ho2 hb2
            go_wp2_with fail
            refine (clone_own _ hn (own_arg (own_later HO1.out HB2.out) HFZ.out hn)).mono ?_
            rintro e w3 ⟨ov, rfl, ⟨oa, oc, rfl⟩, ho3, hb3⟩
            have HO3 := hid ho3
            have HB3 := hid hb3
            have HF3 := hid (own_later (own_later HO1.out HB2.out) hb3)
            have HK3 := hid (own_later HO2.out hb3)
            have hs1 := HB1.out.size
            have hs2' := HB2.out.size
            have hs3 := hb3.size
            have HBL := hid ((HB1.out.trans (HB2.out.mono hs1)).trans (hb3.mono (Nat.le_trans hs1 hs2')))
            clear ho3 hb3
            by_cases hin : InF n f s
            · have HIN := hid hin
              clear hin
              go_wp2_with fail
              refine (contains_any s _ (by omega) (own_strF HO3.out)).mono ?_
              rintro e w4 ⟨hr, hw⟩
              have he := retIn_true hr HIN.out
              replace hw := hw.symm
              subst hw he
              clear hr
              go_wp2_with fail
              refine (zz_A_in n _ f s _ h16 (own_strF HF3.out) HIN.out).mono ?_
              rintro e w4 ⟨rfl, hb4⟩
              have HB4 := hid hb4
              clear hb4
              go_wp2_with fail
              refine (equal_any _ (by omega) (own_strF (own_later HF3.out HB4.out)) (own_strF (own_later HO3.out HB4.out))).mono ?_
              rintro e w5 ⟨hr, q, rfl⟩
              have he := retEq_true hr
              subst he
              clear hr
              go_wp2
              go_ret
              exact ⟨rfl, below_drewN (HBL.out.trans (HB4.out.mono (by omega))) _⟩
            · have HIN := hid hin
              clear hin
              go_wp2_with fail
              refine (contains_any s _ (by omega) (own_strF HO3.out)).mono ?_
              rintro e w4 ⟨hr, hw⟩
              have he := retIn_false hr HIN.out
              replace hw := hw.symm
              subst hw he
              clear hr
              go_wp2_with fail
              refine (zz_A_out w.heap.size n _ _ f s _ h16 (by omega) (own_strF HF3.out) HF3.out HIN.out).mono ?_
              rintro e w4 ⟨fv2, rfl, hown4, hg4, hloc⟩
              obtain ⟨g, cap, rfl, hcap1, hcap2, hst4, hlast⟩ := grown_parts hown4
              have HO4 := hid (own_apart HF3.out (fun g hg => own_block_lt (own_later HO1.out HB2.out) hg) HO3.out hg4)
              have HB4 := hid (HBL.out.grown hg4 (by omega) (fun k hk => by
                rcases own_block HF3.out with e' | ⟨g', c, e', hB, _⟩
                · rw [e'] at hk; cases hk
                · rw [e'] at hk; cases hk; exact hB))
              have HST4 := hid hst4
              unfold maxLen at hcap2
              clear hown4 hg4 hloc hst4
              go_wp2_with fail
              refine (equal_any _ (by omega) HST4.out (own_strF HO4.out)).mono ?_
              rintro e w5 ⟨hr, q, rfl⟩
              have he := retEq_true hr
              subst he
              clear hr
              have hself := bytes_beq_self s
              go_wp2
              go_ret
              exact ⟨rfl, below_drewN HB4.out _⟩

end Go.Proofs.Qxb6602792a
