import Derived.Test.Qxb6602792aW8
namespace Go.Proofs.Qxb6602792a
open Go.RowKit Kit
set_option linter.unusedVariables false

set_option maxHeartbeats 400000 in
theorem script_big (v : Value) (a : Option Addr) (n cap : Nat) (hv : v = .slice a n cap) (f : Nat → ByteArray) (w : World) (h : ArgF w v n f) (hbig : 4096 < n) :
    Calls Try.prog 4 #[v] w fun e w' => e = .returned (.bool true) ∧ Below w.heap.size w w' := by
  have HZ := hid (zz14_any w h)
  have hb : (4096 : Int) < n := by omega
  clear h
  subst hv
  go_enter Try.func4, Try.ntmps4
  go_wp2_with fail
  refine HZ.out.mono ?_
  rintro e w' ⟨⟨r, rfl⟩, hw⟩
  replace hw := hw.symm
  subst hw
  cases r
  · go_wp2
    go_ret
    exact ⟨rfl, Below.refl _ _⟩
  · go_wp2
    go_ret
    exact ⟨rfl, Below.refl _ _⟩

set_option maxHeartbeats 2000000 in
set_option maxRecDepth 100000 in
theorem script_some (x : Addr) (n cap : Nat) (f : Nat → ByteArray) (w : World) (hn : n ≤ 4096) (hsrc : ∀ i, i < n → w.cell? (x.add i) = some (.string (f i)) ∧ (f i).size ≤ maxLen) :
    Calls Try.prog 4 #[.slice (some x) n cap] w fun e w' => e = .returned (.bool true) ∧ Below w.heap.size w w' := by
  have HZ := hid (zz14_some x n cap f w (by unfold maxLen; omega) (fun i hi => (hsrc i hi).1))
  have HS := hid hsrc
  have HCL := hid (clone_some x n cap f w (by omega) (fun i hi => (hsrc i hi).1))
  have hb : ¬ (4096 : Int) < n := by omega
  obtain ⟨i0, hi, hz0, hz1, hz2⟩ := info_parts Try.info9
  clear hsrc
  go_enter Try.func4, Try.ntmps4
  go_wp2_with fail
  refine HZ.out.mono ?_
  rintro e w' ⟨⟨r, rfl⟩, hw⟩
  replace hw := hw.symm
  subst hw
  cases r
  · go_wp2
    go_ret
    exact ⟨rfl, Below.refl _ _⟩
  go_wp2
  go_loop [3, 4] (fun z i => ∃ k : Nat, ∃ y : Int, k ≤ n ∧ i = .int .i64 k ∧ z = .int .i64 y) (fun _ i => n - (intOf i).toNat)
  case atStart => exact ⟨0, _, Nat.zero_le _, rfl, rfl⟩
  case round =>
    obtain ⟨k, y, hk, rfl, rfl⟩ := hrel
    by_cases hlt : k < n
    · have ck := (HS.out k hlt).1
      go_wp2
      go_round
      case rel => exact ⟨k + 1, _, by omega, by go_num, rfl⟩
      case measure => simp [intOf]; omega
    · by_cases hy : 1048576 < y
      · go_wp2
        go_ret
        exact ⟨rfl, Below.refl _ _⟩
      · go_wp2_with fail
        refine HCL.out.mono ?_
        rintro e w1 ⟨rfl, hrow, hb1, hs1⟩
        have HROW := hid hrow
        have HB1 := hid hb1
        have HS1 := hid hs1
        clear hrow hb1 hs1
        go_wp2_with (at_make; refine wpList_make_own _ rfl _ _ 22 rfl w.heap.size 9 i0 (.string ByteArray.empty) 1 Try.underlying22 hi hz0 hz1 _ _ _ n rfl rfl rfl (by rw [hz2]; omega) (by unfold maxLen; omega) (by rw [HS1.out]; omega) ?_; intro w2 ho2 hg2; have HO2 := hid ho2; have HG2 := hid hg2; clear ho2 hg2)
        have hinv0 : Inv w w2 w.heap.size w.heap.size n 0 f (.slice none 0 0) (.map none) (.slice (some ⟨w1.heap.size, 0, none⟩) 0 n) [] := by
          refine ⟨Nat.le_refl _, rfl, fun i hi => by simp at hi, World.ownsRow_nil _ _ _ _, .inl ⟨rfl, by simp⟩, HO2.out, ⟨_, _, rfl⟩, ?_, ?_, ?_, ?_, ?_, ?_⟩
          · exact HROW.out.of_block (HG2.out.block _ HROW.out.lt (by simp))
          · exact HB1.out.grown HG2.out HB1.out.size (fun k hk => by cases hk)
          · have := HB1.out.size; have := HG2.out.size; omega
          · intro e; cases e
          · intro e; cases e
          · intro e
            have := HS1.out
            simp only [Value.ownBlock, Option.some.injEq] at e
            omega
        have HI0 := hid hinv0
        clear hinv0
        go_loopw [5, 6, 7, 8] (fun fv mv sv i wr => ∃ k : Nat, ∃ L, k ≤ n ∧ i = .int .i64 k ∧ Hid (Inv w wr w.heap.size w.heap.size n k f fv mv sv L)) (fun _ _ _ i _ => n - (intOf i).toNat)
        case atStart => exact ⟨0, [], Nat.zero_le _, rfl, HI0⟩
        case round =>
          obtain ⟨k, L, hk, rfl, HI⟩ := hrel
          obtain ⟨sb, scap, esv⟩ := HI.out.shape
          subst esv
          have hLk := HI.out.len
          by_cases hlt2 : k < n
          · have ck := HI.out.ops.cell hlt2
            have hfk := (HS.out k hlt2).2
            have HCON := hid (contains_any (f k) _ (by omega) (own_str HI.out.seen).2)
            have HST := hid (step w.heap.size _ _ L (f k) _ HI.out.dist HI.out.sizes hfk (by omega) HI.out.size HI.out.few HI.out.many)
            have hnil := fun u r => run_eql_map_nil (P := Try.prog) u 25 9 4 r Try.underlying25
            cases hm : mL L (f k).data.toList
            · rw [hm] at HST
              go_wp2_with fail
              refine HCON.out.mono ?_
              rintro e w4 ⟨hr, hw⟩
              have he := retIn_mL hr
              rw [hm] at he
              replace hw := hw.symm
              subst hw he
              clear hr
              go_wp2_with fail
              refine HST.out.mono ?_
              rintro e w3 ⟨fv', mv', rfl, hF, hM, hE, hloc⟩
              have HA := hid (HI.out.afterStep hE hloc)
              have HNEW := hid (fun (w4 : World) (sv' : Value) h1 h2 h3 => HI.out.new (w4 := w4) (sv' := sv') hm hfk hF hM hE hloc h1 h2 h3)
              clear hF hE hloc
              have HL2 : Hid ((L ++ [f k]).length = L.length + 1) := hid (by simp)
              have hMany := hM
              have ha : addL L (f k) = L ++ [f k] := by unfold addL; rw [hm]; rfl
              rw [ha] at hMany
              clear ha hM
              rcases hMany with ⟨rfl, h16⟩ | ⟨mb, rfl, hBm, h16, hset⟩
              · have hle : ¬ (16 : Int) < (L.length : Int) + 1 := by rw [HL2.out] at h16; omega
                go_wp2_with (at_builtin; refine wpList_append_own_at _ rfl _ _ 22 rfl w.heap.size 9 i0 (.string ByteArray.empty) 1 16 Try.underlying22 hi hz0 hz1 hz2 rfl (by decide) (.slice (some ⟨sb, 0, none⟩) L.length scap) L.length (L.map Value.string) rfl (HA.out.1.alloc _) ⟨w3.heap.size, 0, none⟩ 1 1 [.string (f k)] rfl rfl (cell_one_new _ _ _) (by simp [Value.oneCell']) (by unfold maxLen; omega) (by omega) (by have := HA.out.2.2.2.1; simp; omega) ?_; intro v' w4 hown' hgrow hnl hloc'; obtain ⟨g', cap', rfl, hc1, hc2⟩ := own_shape' hown'; have HI2 := hid (HNEW.out w4 _ hown' hgrow (by simpa using hloc')); clear hown' hgrow hloc' hnl)
                refine (equal_any _ (by have := List.length_take_le 16 (L ++ [f k]); omega) (few_str HI2.out.few) (seen_take (lim := L.length + 1) HI2.out.seen (by rw [HL2.out]; omega))).mono ?_
                rintro e w5 ⟨hr, q, rfl⟩
                have he := retEq_few (by rw [HL2.out]; omega) hr
                subst he
                clear hr
                go_wp2
                go_roundw
                case rel => exact ⟨k + 1, _, by omega, by go_num, hid (HI2.out.drewN q)⟩
                case measure => simp [intOf]; omega
              · clear hset
                by_cases hbig : (16 : Int) < (L.length : Int) + 1
                · go_wp2_with (at_builtin; refine wpList_append_own_at _ rfl _ _ 22 rfl w.heap.size 9 i0 (.string ByteArray.empty) 1 16 Try.underlying22 hi hz0 hz1 hz2 rfl (by decide) (.slice (some ⟨sb, 0, none⟩) L.length scap) L.length (L.map Value.string) rfl (HA.out.1.alloc _) ⟨w3.heap.size, 0, none⟩ 1 1 [.string (f k)] rfl rfl (cell_one_new _ _ _) (by simp [Value.oneCell']) (by unfold maxLen; omega) (by omega) (by have := HA.out.2.2.2.1; simp; omega) ?_; intro v' w4 hown' hgrow hnl hloc'; obtain ⟨g', cap', rfl, hc1, hc2⟩ := own_shape' hown'; have HI2 := hid (HNEW.out w4 _ hown' hgrow (by simpa using hloc')); clear hown' hgrow hloc' hnl)
                  rcases HI2.out.many with ⟨e1, _⟩ | ⟨mb2, e1, _, _, hset⟩
                  · cases e1
                  cases e1
                  have HSET := hid hset
                  clear hset
                  refine (equal_any _ (by have := List.length_take_le 16 (L ++ [f k]); omega) (few_str HI2.out.few) (seen_take (lim := 16) HI2.out.seen (by rw [HL2.out]; omega))).mono ?_
                  rintro e w5 ⟨hr, q, rfl⟩
                  have he := retEq_few (by rw [HL2.out]; omega) hr
                  subst he
                  have hlen := many_len HSET.out q ((L.length : Int) + 1) (by rw [HL2.out]; rfl)
                  clear hr
                  go_wp2
                  go_roundw
                  case rel => exact ⟨k + 1, _, by omega, by go_num, hid (HI2.out.drewN q)⟩
                  case measure => simp [intOf]; omega
                · go_wp2_with (at_builtin; refine wpList_append_own_at _ rfl _ _ 22 rfl w.heap.size 9 i0 (.string ByteArray.empty) 1 16 Try.underlying22 hi hz0 hz1 hz2 rfl (by decide) (.slice (some ⟨sb, 0, none⟩) L.length scap) L.length (L.map Value.string) rfl (HA.out.1.alloc _) ⟨w3.heap.size, 0, none⟩ 1 1 [.string (f k)] rfl rfl (cell_one_new _ _ _) (by simp [Value.oneCell']) (by unfold maxLen; omega) (by omega) (by have := HA.out.2.2.2.1; simp; omega) ?_; intro v' w4 hown' hgrow hnl hloc'; obtain ⟨g', cap', rfl, hc1, hc2⟩ := own_shape' hown'; have HI2 := hid (HNEW.out w4 _ hown' hgrow (by simpa using hloc')); clear hown' hgrow hloc' hnl)
                  rcases HI2.out.many with ⟨e1, _⟩ | ⟨mb2, e1, _, _, hset⟩
                  · cases e1
                  cases e1
                  have HSET := hid hset
                  clear hset
                  refine (equal_any _ (by have := List.length_take_le 16 (L ++ [f k]); omega) (few_str HI2.out.few) (seen_take (lim := L.length + 1) HI2.out.seen (by rw [HL2.out]; omega))).mono ?_
                  rintro e w5 ⟨hr, q, rfl⟩
                  have he := retEq_few (by rw [HL2.out]; omega) hr
                  subst he
                  have hlen := many_len HSET.out q ((L.length : Int) + 1) (by rw [HL2.out]; rfl)
                  clear hr
                  go_wp2
                  go_roundw
                  case rel => exact ⟨k + 1, _, by omega, by go_num, hid (HI2.out.drewN q)⟩
                  case measure => simp [intOf]; omega
            · rw [hm] at HST
              obtain ⟨hcap1, hcap2⟩ := own_cap HI.out.seen
              unfold maxLen at hcap2
              go_wp2_with fail
              refine HCON.out.mono ?_
              rintro e w4 ⟨hr, hw⟩
              have he := retIn_mL hr
              rw [hm] at he
              replace hw := hw.symm
              subst hw he
              clear hr
              go_wp2_with fail
              refine HST.out.mono ?_
              rintro e w3 ⟨fv', mv', rfl, hF, hM, hE, hloc⟩
              have HI2 := hid (HI.out.old hm hF hM hE hloc)
              clear hF hM hE hloc
              rcases HI2.out.many with ⟨rfl, h16⟩ | ⟨mb, rfl, hBm, h16, hset⟩
              · have hle : ¬ (16 : Int) < (L.length : Int) := by omega
                go_wp2_with fail
                refine (equal_any _ (by have := List.length_take_le 16 L; omega) (few_str HI2.out.few) (seen_take (lim := L.length) HI2.out.seen (Nat.le_refl _))).mono ?_
                rintro e w5 ⟨hr, q, rfl⟩
                have he := retEq_few (by omega) hr
                subst he
                clear hr
                go_wp2
                go_roundw
                case rel => exact ⟨k + 1, _, by omega, by go_num, hid (HI2.out.drewN q)⟩
                case measure => simp [intOf]; omega
              · have HSET := hid hset
                clear hset
                by_cases hbig : (16 : Int) < (L.length : Int)
                · go_wp2_with fail
                  refine (equal_any _ (by have := List.length_take_le 16 L; omega) (few_str HI2.out.few) (seen_take (lim := 16) HI2.out.seen (by omega))).mono ?_
                  rintro e w5 ⟨hr, q, rfl⟩
                  have he := retEq_few (by omega) hr
                  subst he
                  have hlen := many_len HSET.out q (L.length : Int) rfl
                  clear hr
                  go_wp2
                  go_roundw
                  case rel => exact ⟨k + 1, _, by omega, by go_num, hid (HI2.out.drewN q)⟩
                  case measure => simp [intOf]; omega
                · go_wp2_with fail
                  refine (equal_any _ (by have := List.length_take_le 16 L; omega) (few_str HI2.out.few) (seen_take (lim := L.length) HI2.out.seen (Nat.le_refl _))).mono ?_
                  rintro e w5 ⟨hr, q, rfl⟩
                  have he := retEq_few (by omega) hr
                  subst he
                  have hlen := many_len HSET.out q (L.length : Int) rfl
                  clear hr
                  go_wp2
                  go_roundw
                  case rel => exact ⟨k + 1, _, by omega, by go_num, hid (HI2.out.drewN q)⟩
                  case measure => simp [intOf]; omega
          · have hnn := fun u r => run_neq_map_nil (P := Try.prog) u 25 9 4 r Try.underlying25
            rcases HI.out.many with ⟨rfl, h16⟩ | ⟨mb, rfl, hBm, h16, hset⟩
            · go_wp2
              go_ret
              exact ⟨rfl, HI.out.below⟩
            · have HSET := hid hset
              clear hset
              go_wp2
              go_loop [15] (fun i => ∃ t : Nat, t ≤ L.length ∧ i = .int .i64 t) (fun i => L.length - (intOf i).toNat)
              case atStart => exact ⟨0, Nat.zero_le _, rfl⟩
              case round =>
                obtain ⟨t, ht, rfl⟩ := hrel
                by_cases hlt3 : t < L.length
                · have ct := seen_cell HI.out.seen hlt3
                  have hlook := HSET.out.look law9 (t := 25) Try.underlying25 Try.underlying4 (zero4 _) (key9 (HI.out.sizes t hlt3))
                  rw [mL_self hlt3] at hlook
                  go_wp2
                  go_round
                  case rel => exact ⟨t + 1, by omega, by go_num⟩
                  case measure => simp [intOf]; omega
                · go_wp2
                  go_ret
                  exact ⟨rfl, HI.out.below⟩

set_option maxHeartbeats 400000 in
theorem script_nil (w : World) :
    Calls Try.prog 4 #[.slice none 0 0] w fun e w' => e = .returned (.bool true) ∧ Below w.heap.size w w' := by
  have HZ := hid (zz14_nil w)
  have hnn := fun u r => run_neq_map_nil (P := Try.prog) u 25 9 4 r Try.underlying25
  obtain ⟨i0, hi, hz0, hz1, hz2⟩ := info_parts Try.info9
  go_enter Try.func4, Try.ntmps4
  go_wp2_with fail
  refine HZ.out.mono ?_
  rintro e w' ⟨⟨r, rfl⟩, hw⟩
  replace hw := hw.symm
  subst hw
  cases r
  · go_wp2
    go_ret
    exact ⟨rfl, Below.refl _ _⟩
  go_wp2
  refine wp_loop_rounds 1 ?_
  rw [rounds_succ]
  go_wp2_with fail
  refine (clone_nil _).mono ?_
  rintro e w' ⟨rfl, hw⟩
  replace hw := hw.symm
  subst hw
  go_wp2_with (at_make; refine wpList_make_own _ rfl _ _ 22 rfl w.heap.size 9 i0 (.string ByteArray.empty) 1 Try.underlying22 hi hz0 hz1 _ _ _ 0 rfl rfl rfl (by omega) (by unfold maxLen; omega) (Nat.le_refl _) ?_; intro w2 ho2 hg2; have HO2 := hid ho2; have HG2 := hid hg2; clear ho2 hg2)
  refine wp_loop_rounds 1 ?_
  rw [rounds_succ]
  go_wp2
  go_ret
  exact ⟨rfl, (Below.refl _ _).grown HG2.out (Nat.le_refl _) (fun k hk => by cases hk)⟩

theorem script_any {v : Value} {n : Nat} {f : Nat → ByteArray} (w : World) (h : ArgF w v n f) :
    Calls Try.prog 4 #[v] w fun e w' => e = .returned (.bool true) ∧ Below w.heap.size w w' := by
  have h0 := h
  rcases h with ⟨rfl, rfl⟩ | ⟨x, cap, rfl, hn, hc⟩
  · exact script_nil w
  · by_cases hbig : 4096 < n
    · exact script_big _ _ n cap rfl f w h0 hbig
    · exact script_some x n cap f w (by omega) hc

end Go.Proofs.Qxb6602792a
