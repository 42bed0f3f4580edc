import Derived.Test.Qxb6602792aX3
namespace Go.Proofs.Qxb6602792a
open Go.RowKit Kit
set_option linter.unusedVariables false

set_option maxHeartbeats 2000000 in
set_option maxRecDepth 100000 in
theorem model_C {v u : Value} {n m : Nat} {f h : Nat → ByteArray} (s : ByteArray) (w : World) (hv : ArgF w v n f) (hu : ArgF w u m h) (hs : s.size ≤ maxLen)
    (hn : n ≤ 4096) (hm : m ≤ 4096) (hs2 : s.size ≤ 65536) (hfz : ∀ i, i < n → (f i).size ≤ maxLen) (hhz : ∀ i, i < m → (h i).size ≤ maxLen) :
    Calls Try.prog 3 #[v, .bool true, u, .string s] w fun e w' => e = .returned (.bool true) ∧ Below w.heap.size w w' := by
  have HZ := hid (zz8_any true s w hv hu hs)
  have HCV := hid (clone_own w hn hv)
  have HU := hid hu
  obtain ⟨a, ca, rfl, -, hc⟩ := hv.parts
  obtain ⟨d, cd, rfl, -, hd⟩ := hu.parts
  have HC := hid hc
  have HD := hid hd
  have HFZ := hid hfz
  have HHZ := hid hhz
  have q1 : decide ((4096 : Int) < n) = false := by simp; omega
  have q2 : decide ((4096 : Int) < m) = false := by simp; omega
  have q3 : decide ((65536 : Int) < s.size) = false := by simp; omega
  have hnil := fun u r => run_eql_map_nil (P := Try.prog) u 25 9 4 r Try.underlying25
  have hnn := fun u r => run_neq_map_nil (P := Try.prog) u 25 9 4 r Try.underlying25
  obtain ⟨i0, hi, hz0, hz1, hz2⟩ := info_parts Try.info9
  clear hv hu hc hd hfz hhz
  go_enter Try.func3, Try.ntmps3
  go_wp2_with fail
  refine HZ.out.mono ?_
  rintro e w' ⟨⟨r, rfl⟩, hw⟩
  replace hw := hw.symm
  subst hw
  cases r
  · go_wp2
    go_ret
    exact ⟨rfl, Below.refl _ _⟩
  go_wp2
  go_loop [9, 10] (fun z i => ∃ k : Nat, ∃ y : Int, k ≤ n ∧ i = .int .i64 k ∧ z = .int .i64 y) (fun _ i => n - (intOf i).toNat)
  case atStart => exact ⟨0, _, Nat.zero_le _, rfl, rfl⟩
  case round =>
    obtain ⟨k, y, hk, rfl, rfl⟩ := hrel
    by_cases hlt : k < n
    · obtain ⟨x, rfl, ck⟩ := HC.out k hlt
      go_wp2
      go_round
      case rel => exact ⟨k + 1, _, by omega, by go_num, rfl⟩
      case measure => simp [intOf]; omega
    · go_wp2
      go_loop [9, 11] (fun z i => ∃ k : Nat, ∃ y : Int, k ≤ m ∧ i = .int .i64 k ∧ z = .int .i64 y) (fun _ i => m - (intOf i).toNat)
      case atStart => exact ⟨0, _, Nat.zero_le _, rfl, rfl⟩
      case round =>
        obtain ⟨t, y, ht, rfl, rfl⟩ := hrel
        by_cases hlt2 : t < m
        · obtain ⟨x, rfl, ck⟩ := HD.out t hlt2
          go_wp2
          go_round
          case rel => exact ⟨t + 1, _, by omega, by go_num, rfl⟩
          case measure => simp [intOf]; omega
        · by_cases hy : 1048576 < y
          · go_wp2
            go_ret
            exact ⟨rfl, Below.refl _ _⟩
          · go_wp2_with fail
            refine HCV.out.mono ?_
            rintro e w1 ⟨fv, rfl, ⟨fa, fc, rfl⟩, ho1, hb1⟩
            have HO1 := hid ho1
            have HB1 := hid hb1
            clear ho1 hb1
            go_wp2_with fail
            refine (clone_own _ hm (HU.out.later HB1.out)).mono ?_
            rintro e w2 ⟨kv, rfl, ⟨ka, kc, rfl⟩, ho2, hb2⟩
            have HO2 := hid ho2
            have HB2 := hid hb2
            clear ho2 hb2
            go_wp2_with fail
            refine (clone_own _ hn (own_arg (own_later HO1.out HB2.out) HFZ.out hn)).mono ?_
            rintro e w3 ⟨ov, rfl, ⟨oa, oc, rfl⟩, ho3, hb3⟩
            have HO3 := hid ho3
            have HB3 := hid hb3
            have HF3 := hid (own_later (own_later HO1.out HB2.out) hb3)
            have HK3 := hid (own_later HO2.out hb3)
            have hs1 := HB1.out.size
            have hs2' := HB2.out.size
            have hs3 := hb3.size
            have HBL := hid ((HB1.out.trans (HB2.out.mono hs1)).trans (hb3.mono (Nat.le_trans hs1 hs2')))
            clear ho3 hb3
            have hmm := fun u => run_makeMap_some (P := Try.prog) 25 9 4 Try.underlying25 .i64 (m : Int) u
            go_wp2_with fail
            clear hmm
            go_loopw [14] (fun i wr => ∃ t : Nat, t ≤ m ∧ i = .int .i64 t ∧ Hid (SetS wr w3.heap.size t (memF h t) (nd h t) ∧ (w3.alloc (.map #[] 0)).grownBy wr (some w3.heap.size))) (fun i _ => m - (intOf i).toNat)
            case atStart => exact ⟨0, Nat.zero_le _, rfl, hid ⟨(IsSet.made w3).congr (fun _ => rfl) rfl, World.grownBy.refl _ _⟩⟩
            case round =>
              obtain ⟨t2, ht2, rfl, HS2⟩ := hrel
              have hbw : Below w3.heap.size w3 wr := ((Below.refl _ _).alloc (Nat.le_refl _) _).grown HS2.out.2 (by simp) (fun k hk => by cases hk; exact Nat.le_refl _)
              have HBW := hid hbw
              clear hbw
              by_cases hlt4 : t2 < m
              · obtain ⟨g5, o5, rfl, ct0⟩ := StrF.parts (own_strF HK3.out) t2 hlt4
                have ct := cell_later HBW.out ct0
                clear ct0
                have hfk := HHZ.out t2 hlt4
                go_wp2_with (at_mapUpdate; refine wpList_put_set _ rfl _ _ _ 25 rfl 9 4 law9 Try.underlying25 Try.underlying4 lit_inj lit_key w3.heap.size t2 (nd h t2) (memF h t2) rfl HS2.out.1 (by unfold maxLen; omega) _ (h t2).data.toList rfl rfl (key9 hfk) ?_; intro w5 h5 g5'; have H5 := hid h5; have G5 := hid g5'; clear h5 g5')
                go_roundw
                case rel => exact ⟨t2 + 1, by omega, by go_num, hid ⟨H5.out, HS2.out.2.trans G5.out⟩⟩
                case measure => simp [intOf]; omega
              · obtain rfl : m = t2 := by omega
                have HSW := hid HS2.out.1
                have HKW := hid (own_later HK3.out HBW.out)
                have HFW := hid (own_later HF3.out HBW.out)
                have HOW := hid (own_later HO3.out HBW.out)
                have HBWs := HBW.out.size
                by_cases hin : InF m h s
                · have HIN := hid hin
                  clear hin
                  go_wp2_with fail
                  refine (contains_any s _ (by omega) (own_strF HKW.out)).mono ?_
                  rintro e w4 ⟨hr, hw⟩
                  have he := retIn_true hr HIN.out
                  replace hw := hw.symm
                  subst hw he
                  clear hr
                  have HMEM : Hid (memF h m s.data.toList = true) := hid ((memF_iff h s m).2 HIN.out)
                  go_wp2_with fail
                  refine (zz_C _ _ _ _ w3.heap.size m (nd h m) rfl (memF h m) s _ hs (by unfold maxLen; omega) HSW.out).mono ?_
                  rintro e w4 ⟨rfl, hset, hg4⟩
                  rw [HMEM.out] at hset ⊢
                  obtain ⟨es, cl, hh⟩ := HSW.out.heap
                  have HSET := hid hset
                  have HF4 := hid (own_kept_map HFW.out hg4 hh)
                  have HO4 := hid (own_kept_map HOW.out hg4 hh)
                  have HBS4 := hid (own_kept_map HKW.out hg4 hh)
                  have HB4 := hid ((HBL.out.trans (HBW.out.mono (by omega))).grown hg4 (by have := HBW.out.size; omega) (fun k hk => by cases hk; omega))
                  clear hset hg4 hh
                  go_wp2_with fail
                  refine (equal_any _ (by omega) (own_strF HF4.out) (own_strF HO4.out)).mono ?_
                  rintro e w5 ⟨hr, q, rfl⟩
                  have he := retEq_true hr
                  subst he
                  clear hr
                  go_wp2_with fail
                  refine (count_any (f := h) _ (by omega) (own_strF (w := w4.drewN q) HBS4.out)).mono ?_
                  rintro e w6 ⟨rfl, q2, hw6⟩
                  rw [World.drewN_drewN] at hw6
                  subst hw6
                  have hlen := set_len HSET.out (q + q2) (nd h m : Int) (by rfl)
                  have hlook := set_look HSET.out (q + q2) hs (by simp)
                  have hnd := nd_le h m
                  have HBC := hid (StrF.parts (own_strF (w := w4.drewN (q + q2)) HBS4.out))
                  go_wp2
                  go_loop [21] (fun i => ∃ t : Nat, t ≤ m ∧ i = .int .i64 t) (fun i => m - (intOf i).toNat)
                  case atStart => exact ⟨0, Nat.zero_le _, rfl⟩
                  case round =>
                    obtain ⟨t2, ht2, rfl⟩ := hrel
                    by_cases hlt3 : t2 < m
                    · obtain ⟨g3, o3, rfl, ct⟩ := HBC.out t2 hlt3
                      have hlook2 := set_look HSET.out (q + q2) (HHZ.out t2 hlt3) (mem_self s hlt3)
                      go_wp2
                      go_round
                      case rel => exact ⟨t2 + 1, by omega, by go_num⟩
                      case measure => simp [intOf]; omega
                    · go_wp2
                      go_ret
                      exact ⟨rfl, below_drewN HB4.out _⟩
                · have HIN := hid hin
                  clear hin
                  go_wp2_with fail
                  refine (contains_any s _ (by omega) (own_strF HKW.out)).mono ?_
                  rintro e w4 ⟨hr, hw⟩
                  have he := retIn_false hr HIN.out
                  replace hw := hw.symm
                  subst hw he
                  clear hr
                  have HMEM : Hid (memF h m s.data.toList = false) := hid (by cases hm : memF h m s.data.toList; rfl; exact absurd ((memF_iff h s m).1 hm) HIN.out)
                  go_wp2_with fail
                  refine (zz_C _ _ _ _ w3.heap.size m (nd h m) rfl (memF h m) s _ hs (by unfold maxLen; omega) HSW.out).mono ?_
                  rintro e w4 ⟨rfl, hset, hg4⟩
                  rw [HMEM.out] at hset ⊢
                  obtain ⟨es, cl, hh⟩ := HSW.out.heap
                  have HSET := hid hset
                  have HF4 := hid (own_kept_map HFW.out hg4 hh)
                  have HO4 := hid (own_kept_map HOW.out hg4 hh)
                  have HBS4 := hid (own_kept_map HKW.out hg4 hh)
                  have HB4 := hid ((HBL.out.trans (HBW.out.mono (by omega))).grown hg4 (by have := HBW.out.size; omega) (fun k hk => by cases hk; omega))
                  clear hset hg4 hh
                  go_wp2_with fail
                  refine (equal_any _ (by omega) (own_strF HF4.out) (own_strF HO4.out)).mono ?_
                  rintro e w5 ⟨hr, q, rfl⟩
                  have he := retEq_true hr
                  subst he
                  clear hr
                  go_wp2_with fail
                  refine (count_any (f := h) _ (by omega) (own_strF (w := w4.drewN q) HBS4.out)).mono ?_
                  rintro e w6 ⟨rfl, q2, hw6⟩
                  rw [World.drewN_drewN] at hw6
                  subst hw6
                  have hlen := set_len HSET.out (q + q2) ((nd h m : Int) + 1) (by rfl)
                  have hlook := set_look HSET.out (q + q2) hs (by simp)
                  have hnd := nd_le h m
                  have HBC := hid (StrF.parts (own_strF (w := w4.drewN (q + q2)) HBS4.out))
                  go_wp2
                  go_loop [21] (fun i => ∃ t : Nat, t ≤ m ∧ i = .int .i64 t) (fun i => m - (intOf i).toNat)
                  case atStart => exact ⟨0, Nat.zero_le _, rfl⟩
                  case round =>
                    obtain ⟨t2, ht2, rfl⟩ := hrel
                    by_cases hlt3 : t2 < m
                    · obtain ⟨g3, o3, rfl, ct⟩ := HBC.out t2 hlt3
                      have hlook2 := set_look HSET.out (q + q2) (HHZ.out t2 hlt3) (mem_self s hlt3)
                      go_wp2
                      go_round
                      case rel => exact ⟨t2 + 1, by omega, by go_num⟩
                      case measure => simp [intOf]; omega
                    · go_wp2
                      go_ret
                      exact ⟨rfl, below_drewN HB4.out _⟩


theorem ArgF.sizes {w : World} {v : Value} {n : Nat} {f : Nat → ByteArray} (h : ArgF w v n f) : ∀ i, i < n → (f i).size ≤ maxLen := by
  rcases h with ⟨_, rfl⟩ | ⟨x, cap, rfl, hn, hc⟩
  · intro i hi; omega
  · exact fun i hi => (hc i hi).2

end Go.Proofs.Qxb6602792a
