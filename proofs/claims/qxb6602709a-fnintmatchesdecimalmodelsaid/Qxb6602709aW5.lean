import Derived.Test.Qxb6602709aW4
namespace Go.Proofs.Qxb6602709a
open Go.RowKit Kit
set_option linter.unusedVariables false

theorem u64_step {v c : Int} (h0 : 0 ≤ v) (h1 : 48 ≤ c) (h2 : c ≤ 57) (h : 10 * v + (c - 48) ≤ 9999999999999999999) : Value.int .u64 (v * 10 + (c - 48)) = .int .u64 (10 * v + (c - 48)) := by
  rw [Int.mul_comm]

theorem u64_bare {v c : Int} (h0 : 0 ≤ v) (h1 : 48 ≤ c) (h2 : c ≤ 57) (h : 10 * v + (c - 48) ≤ 9999999999999999999) : v * 10 + (c - 48) = 10 * v + (c - 48) := by
  rw [Int.mul_comm]

theorem idx_false (t : Nat) (h : t < 19) (u : World) : (Instr.index 9 (.string ⟨#[57, 50, 50, 51, 51, 55, 50, 48, 51, 54, 56, 53, 52, 55, 55, 53, 56, 48, 55]⟩) (.int .i64 (t : Int))).run Try.prog u = .ok (.int .u8 (Pl.lim false t)) u := by
  have h' : t = 0 ∨ t = 1 ∨ t = 2 ∨ t = 3 ∨ t = 4 ∨ t = 5 ∨ t = 6 ∨ t = 7 ∨ t = 8 ∨ t = 9 ∨ t = 10 ∨ t = 11 ∨ t = 12 ∨ t = 13 ∨ t = 14 ∨ t = 15 ∨ t = 16 ∨ t = 17 ∨ t = 18 := by omega
  rcases h' with rfl | rfl | rfl | rfl | rfl | rfl | rfl | rfl | rfl | rfl | rfl | rfl | rfl | rfl | rfl | rfl | rfl | rfl | rfl
  all_goals rfl

theorem idx_true (t : Nat) (h : t < 19) (u : World) : (Instr.index 9 (.string ⟨#[57, 50, 50, 51, 51, 55, 50, 48, 51, 54, 56, 53, 52, 55, 55, 53, 56, 48, 56]⟩) (.int .i64 (t : Int))).run Try.prog u = .ok (.int .u8 (Pl.lim true t)) u := by
  have h' : t = 0 ∨ t = 1 ∨ t = 2 ∨ t = 3 ∨ t = 4 ∨ t = 5 ∨ t = 6 ∨ t = 7 ∨ t = 8 ∨ t = 9 ∨ t = 10 ∨ t = 11 ∨ t = 12 ∨ t = 13 ∨ t = 14 ∨ t = 15 ∨ t = 16 ∨ t = 17 ∨ t = 18 := by omega
  rcases h' with rfl | rfl | rfl | rfl | rfl | rfl | rfl | rfl | rfl | rfl | rfl | rfl | rfl | rfl | rfl | rfl | rfl | rfl | rfl
  all_goals rfl

theorem wrap_u64 {v : Int} (h0 : 0 ≤ v) (h : v ≤ 9223372036854775808) : wrap64 (IntKind.u64.wrap (-v)) = -v := by
  have e : IntKind.u64.wrap (-v) = (-v) % 18446744073709551616 := by
    simp [IntKind.wrap, IntKind.bits, IntKind.signed]
  rw [e]; unfold wrap64; omega

theorem fin_false {V v : Int} (h : Pl.res false V = (Pl.fits false v, true)) (h0 : 0 ≤ v) : Ending.returned (.tuple #[.int .i64 (wrap64 v), .bool true]) = .returned (.tuple #[.int .i64 (Pl.res false V).1, .bool (Pl.res false V).2]) := by
  have hb : v < 9223372036854775808 := by
    unfold Pl.res Pl.fits at h
    simp only [Bool.false_eq_true, if_false] at h
    split at h
    · cases h; assumption
    · cases h
  rw [h, show wrap64 v = v from wrap_neg h0 hb]; rfl

theorem fin_true {V v : Int} (h : Pl.res true V = (Pl.fits true v, true)) (h0 : 0 ≤ v) : Ending.returned (.tuple #[.int .i64 (wrap64 (IntKind.u64.wrap (-v))), .bool true]) = .returned (.tuple #[.int .i64 (Pl.res true V).1, .bool (Pl.res true V).2]) := by
  have hb : v ≤ 9223372036854775808 := by
    unfold Pl.res Pl.fits at h
    simp only [if_true] at h
    split at h
    · simp only [Prod.mk.injEq, and_true] at h; omega
    · simp at h
  rw [h, wrap_u64 h0 hb]; rfl

set_option maxHeartbeats 2000000 in
theorem model_pos (B n cap : Nat) (f : Nat → Int) (w : World) (hn : 1 ≤ n) (hmax : n + 2 ≤ 1048576) (hle : n + 2 ≤ cap)
    (hc : ∀ i, i < n + 2 → w.cell? ⟨B, i, none⟩ = some (.int .u8 (f i))) (hneg : (f 1 == 45) = false) (hd : Pl.Dig f 1 n) :
    Calls Try.prog 10 #[.slice (some ⟨B, 0, none⟩) (n + 2) cap] w fun e w' => e = .returned (.tuple #[.int .i64 (Pl.res false (Pl.V f 1 n)).1, .bool (Pl.res false (Pl.V f 1 n)).2]) ∧ Below w.heap.size w w' := by
  have c1 := hc 1 (by omega)
  have HCW := hid hc
  have HD := hid hd
  clear hc hd
  go_enter Try.func10, Try.ntmps10
  go_wp2
  go_loop [4] (fun i => ∃ k : Nat, 1 ≤ k ∧ k + 1 ≤ n + 1 ∧ i = .int .i64 k ∧ Hid (∀ j, 1 ≤ j → j < k → f j = 48)) (fun i => n + 1 - (intOf i).toNat)
  case atStart => exact ⟨1, Nat.le_refl _, by omega, rfl, fun j h1 h2 => by omega⟩
  case round =>
    obtain ⟨k, hk1, hk2, rfl, hup⟩ := hrel
    have ck := HCW.out k (by omega)
    obtain ⟨q, hq⟩ : ∃ q, q = n + 1 - k := ⟨_, rfl⟩
    have hqk1 : k + q ≤ n + 1 := by omega
    have hqk2 : n + 1 ≤ k + q := by omega
    have hq1 : 1 ≤ q := by omega
    have hDk : Pl.Dig f k q := fun i hi => by
      have := HD.out (k + i - 1) (by omega)
      rwa [show 1 + (k + i - 1) = k + i by omega] at this
    have hVe : Pl.V f 1 n = Pl.V f k q := by
      have h := Pl.V_strip (f := f) 1 (k - 1) (fun i hi => hup.out (1 + i) (by omega) (by omega)) q
      rwa [show k - 1 + q = n by omega, show 1 + (k - 1) = k by omega] at h
    have HDK := hid hDk
    have HVE := hid hVe
    clear hDk hVe hq
    by_cases hlt : k + 1 < n + 1
    · cases hz : (f k == 48)
      · have hz' : f k ≠ 48 := by simpa using hz
        have HZ := hid hz'
        clear hz'
        by_cases hbig : 19 < q
        · have HRES : Hid (Pl.res false (Pl.V f 1 n) = (0, false)) := hid (by rw [HVE.out]; exact Pl.res_big false HDK.out (by omega) HZ.out)
          go_wp2
          go_ret2
          exact ⟨tupr HRES.out, Below.refl _ _⟩
        · by_cases h19 : q = 19
          · subst h19
            obtain rfl : n = k + 19 - 1 := by omega
            have hq19 : 19 ≤ 19 := Nat.le_refl _
            go_wp2
            go_loopw [9] (fun i wr => ∃ t : Nat, t ≤ 19 ∧ i = .int .i64 t ∧ Hid (∀ j, j < t → f (k + j) = Pl.lim false j) ∧ Below w.heap.size w wr) (fun i _ => 19 - (intOf i).toNat)
            case atStart => exact ⟨0, Nat.zero_le _, rfl, fun j hj => by omega, Below.refl _ _⟩
            case round =>
              obtain ⟨t, ht, rfl, hsame, hbel⟩ := hrel
              have HB := hid hbel
              have HC2 : Hid (∀ i, i < k + 19 - 1 + 2 → wr.cell? ⟨B, i, none⟩ = some (.int .u8 (f i))) := fun i hi => cell_later hbel (HCW.out i hi)
              clear HCW hbel ck c1
              have HCW := HC2
              clear HC2
              by_cases hlt2 : t < 19
              · have ct := HCW.out (k + t) (by omega)
                have hidx := fun u => idx_false t hlt2 u
                have hti : (t : Int) < 19 := by omega
                cases hne : (f (k + t) != Pl.lim false t)
                · have he : f (k + t) = Pl.lim false t := by simpa using hne
                  have HE := hid he
                  clear he
                  go_wp2
                  go_quiet (fail)
                  go_wp2
                  go_roundw
                  case rel =>
                    refine ⟨t + 1, by omega, by go_num, ?_, below_drewN HB.out _⟩
                    intro j hj
                    rcases Nat.lt_or_ge j t with h | h
                    · exact hsame.out j h
                    · obtain rfl : j = t := by omega
                      exact HE.out
                  case measure => simp [intOf]; omega
                · have hne' : f (k + t) ≠ Pl.lim false t := by simpa using hne
                  have HN := hid hne'
                  clear hne'
                  by_cases hgt : Pl.lim false t < f (k + t)
                  · have HRES : Hid (Pl.res false (Pl.V f 1 (k + 19 - 1)) = (0, false)) := hid (by rw [HVE.out]; exact Pl.res_above false HDK.out hlt2 hsame.out hgt)
                    go_wp2
                    go_quiet (fail)
                    go_wp2
                    go_quiet (fail)
                    go_wp2
                    go_ret2
                    exact ⟨tupr HRES.out, below_drewN (below_drewN HB.out _) _⟩
                  · have HRES : Hid (Pl.res false (Pl.V f 1 (k + 19 - 1)) = (Pl.fits false (Pl.V f k 19), true)) := hid (by rw [HVE.out]; exact Pl.res_below false HDK.out hlt2 hsame.out (by have := HN.out; omega))
                    go_wp2
                    go_quiet (fail)
                    go_wp2
                    go_quiet (fail)
                    go_wp2
                    go_loop [10, 11] (fun mm i => ∃ t : Nat, t ≤ 19 ∧ i = .int .i64 t ∧ mm = .int .u64 (Pl.V f k t)) (fun _ i => 19 - (intOf i).toNat)
                    case atStart => exact ⟨0, Nat.zero_le _, rfl, rfl⟩
                    case round =>
                      obtain ⟨t, ht, rfl, rfl⟩ := hrel
                      have v0 := Pl.V_nonneg HDK.out t ht
                      by_cases hlt3 : t < 19
                      · have ct := HCW.out (k + t) (by omega)
                        obtain ⟨x1, x2⟩ := HDK.out t hlt3
                        have hb := Pl.V_bound HDK.out hq19 (k := t + 1) (by omega)
                        have hb' : 10 * Pl.V f k t + (f (k + t) - 48) ≤ 9999999999999999999 := hb
                        clear hb
                        go_wp2
                        go_round
                        case rel => first | exact ⟨t + 1, by omega, by go_num, u64_step v0 x1 x2 hb'⟩ | exact ⟨t + 1, by omega, by go_num, u64_bare v0 x1 x2 hb'⟩
                        case measure => simp [intOf]; omega
                      · obtain rfl : t = 19 := by omega
                        go_wp2
                        go_ret2
                        exact ⟨fin_false HRES.out v0, below_drewN HB.out _⟩
              · obtain rfl : t = 19 := by omega
                have HRES : Hid (Pl.res false (Pl.V f 1 (k + 19 - 1)) = (Pl.fits false (Pl.V f k 19), true)) := hid (by rw [HVE.out]; exact Pl.res_same false hsame.out)
                go_wp2
                go_loop [10, 11] (fun mm i => ∃ t : Nat, t ≤ 19 ∧ i = .int .i64 t ∧ mm = .int .u64 (Pl.V f k t)) (fun _ i => 19 - (intOf i).toNat)
                case atStart => exact ⟨0, Nat.zero_le _, rfl, rfl⟩
                case round =>
                  obtain ⟨t, ht, rfl, rfl⟩ := hrel
                  have v0 := Pl.V_nonneg HDK.out t ht
                  by_cases hlt3 : t < 19
                  · have ct := HCW.out (k + t) (by omega)
                    obtain ⟨x1, x2⟩ := HDK.out t hlt3
                    have hb := Pl.V_bound HDK.out hq19 (k := t + 1) (by omega)
                    have hb' : 10 * Pl.V f k t + (f (k + t) - 48) ≤ 9999999999999999999 := hb
                    clear hb
                    go_wp2
                    go_round
                    case rel => first | exact ⟨t + 1, by omega, by go_num, u64_step v0 x1 x2 hb'⟩ | exact ⟨t + 1, by omega, by go_num, u64_bare v0 x1 x2 hb'⟩
                    case measure => simp [intOf]; omega
                  · obtain rfl : t = 19 := by omega
                    go_wp2
                    go_ret2
                    exact ⟨fin_false HRES.out v0, HB.out⟩
          · have hq19 : q ≤ 19 := by omega
            have HRES : Hid (Pl.res false (Pl.V f 1 n) = (Pl.fits false (Pl.V f k q), true)) := hid (by rw [HVE.out]; exact Pl.res_small false HDK.out (by omega))
            go_wp2
            go_loop [10, 11] (fun mm i => ∃ t : Nat, t ≤ q ∧ i = .int .i64 t ∧ mm = .int .u64 (Pl.V f k t)) (fun _ i => q - (intOf i).toNat)
            case atStart => exact ⟨0, Nat.zero_le _, rfl, rfl⟩
            case round =>
              obtain ⟨t, ht, rfl, rfl⟩ := hrel
              have v0 := Pl.V_nonneg HDK.out t ht
              by_cases hlt3 : t < q
              · have ct := HCW.out (k + t) (by omega)
                obtain ⟨x1, x2⟩ := HDK.out t hlt3
                have hb := Pl.V_bound HDK.out hq19 (k := t + 1) (by omega)
                have hb' : 10 * Pl.V f k t + (f (k + t) - 48) ≤ 9999999999999999999 := hb
                clear hb
                go_wp2
                go_round
                case rel => first | exact ⟨t + 1, by omega, by go_num, u64_step v0 x1 x2 hb'⟩ | exact ⟨t + 1, by omega, by go_num, u64_bare v0 x1 x2 hb'⟩
                case measure => simp [intOf]; omega
              · obtain rfl : t = q := by omega
                go_wp2
                go_ret2
                exact ⟨fin_false HRES.out v0, Below.refl _ _⟩
      · have hz' : f k = 48 := by simpa using hz
        have HZ := hid hz'
        clear hz'
        go_wp2
        go_round
        case rel =>
          refine ⟨k + 1, by omega, by omega, by go_num, ?_⟩
          intro j h1 h2
          rcases Nat.lt_or_ge j k with h | h
          · exact hup.out j h1 h
          · obtain rfl : j = k := by omega
            exact HZ.out
        case measure => simp [intOf]; omega
    · have hq19 : q ≤ 19 := by omega
      have HRES : Hid (Pl.res false (Pl.V f 1 n) = (Pl.fits false (Pl.V f k q), true)) := hid (by rw [HVE.out]; exact Pl.res_small false HDK.out (by omega))
      go_wp2
      go_loop [10, 11] (fun mm i => ∃ t : Nat, t ≤ q ∧ i = .int .i64 t ∧ mm = .int .u64 (Pl.V f k t)) (fun _ i => q - (intOf i).toNat)
      case atStart => exact ⟨0, Nat.zero_le _, rfl, rfl⟩
      case round =>
        obtain ⟨t, ht, rfl, rfl⟩ := hrel
        have v0 := Pl.V_nonneg HDK.out t ht
        by_cases hlt3 : t < q
        · have ct := HCW.out (k + t) (by omega)
          obtain ⟨x1, x2⟩ := HDK.out t hlt3
          have hb := Pl.V_bound HDK.out hq19 (k := t + 1) (by omega)
          have hb' : 10 * Pl.V f k t + (f (k + t) - 48) ≤ 9999999999999999999 := hb
          clear hb
          go_wp2
          go_round
          case rel => first | exact ⟨t + 1, by omega, by go_num, u64_step v0 x1 x2 hb'⟩ | exact ⟨t + 1, by omega, by go_num, u64_bare v0 x1 x2 hb'⟩
          case measure => simp [intOf]; omega
        · obtain rfl : t = q := by omega
          go_wp2
          go_ret2
          exact ⟨fin_false HRES.out v0, Below.refl _ _⟩

set_option maxHeartbeats 2000000 in
theorem model_neg (B n cap : Nat) (f : Nat → Int) (w : World) (hn : 1 ≤ n) (hmax : n + 3 ≤ 1048576) (hle : n + 3 ≤ cap)
    (hc : ∀ i, i < n + 3 → w.cell? ⟨B, i, none⟩ = some (.int .u8 (f i))) (hneg : (f 1 == 45) = true) (hd : Pl.Dig f 2 n) :
    Calls Try.prog 10 #[.slice (some ⟨B, 0, none⟩) (n + 3) cap] w fun e w' => e = .returned (.tuple #[.int .i64 (Pl.res true (Pl.V f 2 n)).1, .bool (Pl.res true (Pl.V f 2 n)).2]) ∧ Below w.heap.size w w' := by
  have c1 := hc 1 (by omega)
  have HCW := hid hc
  have HD := hid hd
  clear hc hd
  go_enter Try.func10, Try.ntmps10
  go_wp2
  go_loop [4] (fun i => ∃ k : Nat, 2 ≤ k ∧ k + 1 ≤ n + 2 ∧ i = .int .i64 k ∧ Hid (∀ j, 2 ≤ j → j < k → f j = 48)) (fun i => n + 2 - (intOf i).toNat)
  case atStart => exact ⟨2, Nat.le_refl _, by omega, rfl, fun j h1 h2 => by omega⟩
  case round =>
    obtain ⟨k, hk1, hk2, rfl, hup⟩ := hrel
    have ck := HCW.out k (by omega)
    obtain ⟨q, hq⟩ : ∃ q, q = n + 2 - k := ⟨_, rfl⟩
    have hqk1 : k + q ≤ n + 2 := by omega
    have hqk2 : n + 2 ≤ k + q := by omega
    have hq1 : 1 ≤ q := by omega
    have hDk : Pl.Dig f k q := fun i hi => by
      have := HD.out (k + i - 2) (by omega)
      rwa [show 2 + (k + i - 2) = k + i by omega] at this
    have hVe : Pl.V f 2 n = Pl.V f k q := by
      have h := Pl.V_strip (f := f) 2 (k - 2) (fun i hi => hup.out (2 + i) (by omega) (by omega)) q
      rwa [show k - 2 + q = n by omega, show 2 + (k - 2) = k by omega] at h
    have HDK := hid hDk
    have HVE := hid hVe
    clear hDk hVe hq
    by_cases hlt : k + 1 < n + 2
    · cases hz : (f k == 48)
      · have hz' : f k ≠ 48 := by simpa using hz
        have HZ := hid hz'
        clear hz'
        by_cases hbig : 19 < q
        · have HRES : Hid (Pl.res true (Pl.V f 2 n) = (0, false)) := hid (by rw [HVE.out]; exact Pl.res_big true HDK.out (by omega) HZ.out)
          go_wp2
          go_ret2
          exact ⟨tupr HRES.out, Below.refl _ _⟩
        · by_cases h19 : q = 19
          · subst h19
            obtain rfl : n = k + 19 - 2 := by omega
            have hq19 : 19 ≤ 19 := Nat.le_refl _
            go_wp2
            go_loopw [9] (fun i wr => ∃ t : Nat, t ≤ 19 ∧ i = .int .i64 t ∧ Hid (∀ j, j < t → f (k + j) = Pl.lim true j) ∧ Below w.heap.size w wr) (fun i _ => 19 - (intOf i).toNat)
            case atStart => exact ⟨0, Nat.zero_le _, rfl, fun j hj => by omega, Below.refl _ _⟩
            case round =>
              obtain ⟨t, ht, rfl, hsame, hbel⟩ := hrel
              have HB := hid hbel
              have HC2 : Hid (∀ i, i < k + 19 - 2 + 3 → wr.cell? ⟨B, i, none⟩ = some (.int .u8 (f i))) := fun i hi => cell_later hbel (HCW.out i hi)
              clear HCW hbel ck c1
              have HCW := HC2
              clear HC2
              by_cases hlt2 : t < 19
              · have ct := HCW.out (k + t) (by omega)
                have hidx := fun u => idx_true t hlt2 u
                have hti : (t : Int) < 19 := by omega
                cases hne : (f (k + t) != Pl.lim true t)
                · have he : f (k + t) = Pl.lim true t := by simpa using hne
                  have HE := hid he
                  clear he
                  go_wp2
                  go_quiet (fail)
                  go_wp2
                  go_roundw
                  case rel =>
                    refine ⟨t + 1, by omega, by go_num, ?_, below_drewN HB.out _⟩
                    intro j hj
                    rcases Nat.lt_or_ge j t with h | h
                    · exact hsame.out j h
                    · obtain rfl : j = t := by omega
                      exact HE.out
                  case measure => simp [intOf]; omega
                · have hne' : f (k + t) ≠ Pl.lim true t := by simpa using hne
                  have HN := hid hne'
                  clear hne'
                  by_cases hgt : Pl.lim true t < f (k + t)
                  · have HRES : Hid (Pl.res true (Pl.V f 2 (k + 19 - 2)) = (0, false)) := hid (by rw [HVE.out]; exact Pl.res_above true HDK.out hlt2 hsame.out hgt)
                    go_wp2
                    go_quiet (fail)
                    go_wp2
                    go_quiet (fail)
                    go_wp2
                    go_ret2
                    exact ⟨tupr HRES.out, below_drewN (below_drewN HB.out _) _⟩
                  · have HRES : Hid (Pl.res true (Pl.V f 2 (k + 19 - 2)) = (Pl.fits true (Pl.V f k 19), true)) := hid (by rw [HVE.out]; exact Pl.res_below true HDK.out hlt2 hsame.out (by have := HN.out; omega))
                    go_wp2
                    go_quiet (fail)
                    go_wp2
                    go_quiet (fail)
                    go_wp2
                    go_loop [10, 11] (fun mm i => ∃ t : Nat, t ≤ 19 ∧ i = .int .i64 t ∧ mm = .int .u64 (Pl.V f k t)) (fun _ i => 19 - (intOf i).toNat)
                    case atStart => exact ⟨0, Nat.zero_le _, rfl, rfl⟩
                    case round =>
                      obtain ⟨t, ht, rfl, rfl⟩ := hrel
                      have v0 := Pl.V_nonneg HDK.out t ht
                      by_cases hlt3 : t < 19
                      · have ct := HCW.out (k + t) (by omega)
                        obtain ⟨x1, x2⟩ := HDK.out t hlt3
                        have hb := Pl.V_bound HDK.out hq19 (k := t + 1) (by omega)
                        have hb' : 10 * Pl.V f k t + (f (k + t) - 48) ≤ 9999999999999999999 := hb
                        clear hb
                        go_wp2
                        go_round
                        case rel => first | exact ⟨t + 1, by omega, by go_num, u64_step v0 x1 x2 hb'⟩ | exact ⟨t + 1, by omega, by go_num, u64_bare v0 x1 x2 hb'⟩
                        case measure => simp [intOf]; omega
                      · obtain rfl : t = 19 := by omega
                        go_wp2
                        go_ret2
                        exact ⟨fin_true HRES.out v0, below_drewN HB.out _⟩
              · obtain rfl : t = 19 := by omega
                have HRES : Hid (Pl.res true (Pl.V f 2 (k + 19 - 2)) = (Pl.fits true (Pl.V f k 19), true)) := hid (by rw [HVE.out]; exact Pl.res_same true hsame.out)
                go_wp2
                go_loop [10, 11] (fun mm i => ∃ t : Nat, t ≤ 19 ∧ i = .int .i64 t ∧ mm = .int .u64 (Pl.V f k t)) (fun _ i => 19 - (intOf i).toNat)
                case atStart => exact ⟨0, Nat.zero_le _, rfl, rfl⟩
                case round =>
                  obtain ⟨t, ht, rfl, rfl⟩ := hrel
                  have v0 := Pl.V_nonneg HDK.out t ht
                  by_cases hlt3 : t < 19
                  · have ct := HCW.out (k + t) (by omega)
                    obtain ⟨x1, x2⟩ := HDK.out t hlt3
                    have hb := Pl.V_bound HDK.out hq19 (k := t + 1) (by omega)
                    have hb' : 10 * Pl.V f k t + (f (k + t) - 48) ≤ 9999999999999999999 := hb
                    clear hb
                    go_wp2
                    go_round
                    case rel => first | exact ⟨t + 1, by omega, by go_num, u64_step v0 x1 x2 hb'⟩ | exact ⟨t + 1, by omega, by go_num, u64_bare v0 x1 x2 hb'⟩
                    case measure => simp [intOf]; omega
                  · obtain rfl : t = 19 := by omega
                    go_wp2
                    go_ret2
                    exact ⟨fin_true HRES.out v0, HB.out⟩
          · have hq19 : q ≤ 19 := by omega
            have HRES : Hid (Pl.res true (Pl.V f 2 n) = (Pl.fits true (Pl.V f k q), true)) := hid (by rw [HVE.out]; exact Pl.res_small true HDK.out (by omega))
            go_wp2
            go_loop [10, 11] (fun mm i => ∃ t : Nat, t ≤ q ∧ i = .int .i64 t ∧ mm = .int .u64 (Pl.V f k t)) (fun _ i => q - (intOf i).toNat)
            case atStart => exact ⟨0, Nat.zero_le _, rfl, rfl⟩
            case round =>
              obtain ⟨t, ht, rfl, rfl⟩ := hrel
              have v0 := Pl.V_nonneg HDK.out t ht
              by_cases hlt3 : t < q
              · have ct := HCW.out (k + t) (by omega)
                obtain ⟨x1, x2⟩ := HDK.out t hlt3
                have hb := Pl.V_bound HDK.out hq19 (k := t + 1) (by omega)
                have hb' : 10 * Pl.V f k t + (f (k + t) - 48) ≤ 9999999999999999999 := hb
                clear hb
                go_wp2
                go_round
                case rel => first | exact ⟨t + 1, by omega, by go_num, u64_step v0 x1 x2 hb'⟩ | exact ⟨t + 1, by omega, by go_num, u64_bare v0 x1 x2 hb'⟩
                case measure => simp [intOf]; omega
              · obtain rfl : t = q := by omega
                go_wp2
                go_ret2
                exact ⟨fin_true HRES.out v0, Below.refl _ _⟩
      · have hz' : f k = 48 := by simpa using hz
        have HZ := hid hz'
        clear hz'
        go_wp2
        go_round
        case rel =>
          refine ⟨k + 1, by omega, by omega, by go_num, ?_⟩
          intro j h1 h2
          rcases Nat.lt_or_ge j k with h | h
          · exact hup.out j h1 h
          · obtain rfl : j = k := by omega
            exact HZ.out
        case measure => simp [intOf]; omega
    · have hq19 : q ≤ 19 := by omega
      have HRES : Hid (Pl.res true (Pl.V f 2 n) = (Pl.fits true (Pl.V f k q), true)) := hid (by rw [HVE.out]; exact Pl.res_small true HDK.out (by omega))
      go_wp2
      go_loop [10, 11] (fun mm i => ∃ t : Nat, t ≤ q ∧ i = .int .i64 t ∧ mm = .int .u64 (Pl.V f k t)) (fun _ i => q - (intOf i).toNat)
      case atStart => exact ⟨0, Nat.zero_le _, rfl, rfl⟩
      case round =>
        obtain ⟨t, ht, rfl, rfl⟩ := hrel
        have v0 := Pl.V_nonneg HDK.out t ht
        by_cases hlt3 : t < q
        · have ct := HCW.out (k + t) (by omega)
          obtain ⟨x1, x2⟩ := HDK.out t hlt3
          have hb := Pl.V_bound HDK.out hq19 (k := t + 1) (by omega)
          have hb' : 10 * Pl.V f k t + (f (k + t) - 48) ≤ 9999999999999999999 := hb
          clear hb
          go_wp2
          go_round
          case rel => first | exact ⟨t + 1, by omega, by go_num, u64_step v0 x1 x2 hb'⟩ | exact ⟨t + 1, by omega, by go_num, u64_bare v0 x1 x2 hb'⟩
          case measure => simp [intOf]; omega
        · obtain rfl : t = q := by omega
          go_wp2
          go_ret2
          exact ⟨fin_true HRES.out v0, Below.refl _ _⟩

end Go.Proofs.Qxb6602709a
