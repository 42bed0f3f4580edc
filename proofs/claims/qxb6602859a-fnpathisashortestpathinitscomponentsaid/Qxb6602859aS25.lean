import Derived.Test.Qxb6602859aS21
import Derived.BigQuiet
namespace Go.Proofs.Qxb6602859a
open Go.RowKit Kit
set_option linter.unusedVariables false
set_option linter.unusedSimpArgs false

/-- the numbers of the relaxation in memory -/
structure RD (w wr : World) (n : Nat) (D : Nat → Int) : Prop where
  row : wr.rowIs w.heap.size 3 n (fun i => .int .i64 (D i))
  bel : Below w.heap.size w wr

theorem RD.set {w wr : World} {n : Nat} {D : Nat → Int} (h : RD w wr n D) (x : Nat) (a : Int) : RD w (wr.setCell ⟨w.heap.size, x, none⟩ (.int .i64 a)) n (up D x a) := by
  refine ⟨(h.row.set x _).congr (fun i hi => ?_), h.bel.setCell (Nat.le_refl _) _⟩
  by_cases e : i = x
  · subst e; simp [up]
  · simp [up, e]

theorem RD.drewN {w wr : World} {n : Nat} {D : Nat → Int} (h : RD w wr n D) (q : Nat) : RD w (wr.drewN q) n D :=
  ⟨Kept.row (S := fun _ => False) ((Kept.refl _ _).drewN q) h.row (fun e => e), below_drewN h.bel q⟩

set_option maxHeartbeats 8000000 in
set_option maxRecDepth 100000 in
theorem relax_any (n nt nk oc tc kc u v : Nat) (m : Int) (oa ta ka : Option Addr) (off T : Nat → Nat) (tz kz : Nat → Int) (w : World)
    (rO : Row w 21 (.slice oa (n + 1) oc) (n + 1) (fun i => .int .i32 ((off i : Nat) : Int)))
    (rT : Row w 21 (.slice ta nt tc) nt (fun i => .int .i32 (tz i)))
    (rK : Row w 5 (.slice ka nk kc) nk (fun i => .int .u8 (kz i))) (hF : GF n nt nk off tz T) (hn : n ≤ 4096) (hnt : nt ≤ 4096) (hu : u < n) (hv : v < n) :
    Calls Try.prog 17 #[.int .i64 (n : Int), .slice oa (n + 1) oc, .slice ta nt tc, .slice ka nk kc, .int .u8 m, .int .i32 (u : Int), .int .i32 (v : Int)] w
      fun e w' => ∃ D : Nat → Int, e = .returned (.int .i64 (D v)) ∧ Below w.heap.size w w' ∧ Rf n off T (kmB kz m) u D := by
  have mk := fun z => run_make_row' (P := Try.prog) 36 3 (.int .i64 0) 8 Try.underlying36 Try.info3 rfl .i64 .i64 n (by omega) (by omega) z
  have HRW := hid (And.intro rO (And.intro rT rK))
  have HF := hid hF
  have hoff : ∀ x, x ≤ n → off x ≤ 4096 := fun x hx => by have h1 := hF.le hx (Nat.le_refl _); have h2 := hF.le1; omega
  have HOFF := hid hoff
  have iu0 : (0 : Int) ≤ (u : Int) := by omega
  have iu1 : (u : Int) < (n : Int) := by omega
  clear rO rT rK hF hoff
  go_enter Try.func17, Try.ntmps17
  go_wp2
  go_loopw [16] (fun i wr => ∃ (j : Nat) (D : Nat → Int), j ≤ n ∧ i = .int .i64 (j : Int) ∧ Hid (RD w wr n D) ∧ Hid (∀ x, x < j → D x = -1)) (fun i _ => n - (intOf i).toNat)
  case atStart => exact ⟨0, fun _ => 0, Nat.zero_le _, rfl, hid ⟨World.rowIs_made w (.int .i64 0) n 3, below_alloc0 _ _⟩, hid (fun x h => by omega)⟩
  case round =>
    obtain ⟨j, D, hj, rfl, HD, HM⟩ := hrel
    obtain ⟨w1, rfl⟩ : ∃ w1, w1 = wr := ⟨_, rfl⟩
    by_cases hlt : j < n
    · have cj := HD.out.row.cell hlt
      have zj := HD.out.row.frozen j
      generalize (Value.int .i64 (D j)) = v0 at cj
      have i0 : (0 : Int) ≤ (j : Int) := by omega
      have i1 : (j : Int) < (n : Int) := by omega
      go_wp2
      go_roundw
      case rel =>
        refine ⟨j + 1, _, by omega, by go_num, hid (HD.out.set j (-1)), hid (fun x hx => ?_)⟩
        by_cases q : x = j
        · subst q; exact up_same _ _ _
        · rw [up_ne _ _ q]; exact HM.out x (by omega)
      case measure => simp [intOf]; omega
    · obtain rfl : n = j := by omega
      clear hj hlt
      have cu := HD.out.row.cell hu
      have zu := HD.out.row.frozen u
      generalize (Value.int .i64 (D u)) = v0 at cu
      have hD1 : RD w (w1.setCell ⟨w.heap.size, u, none⟩ (.int .i64 0)) n (up (fun _ => -1) u 0) := by
        have h := HD.out.set u 0
        refine ⟨h.row.congr (fun i hi => ?_), h.bel⟩
        by_cases q : i = u
        · subst q; rw [up_same, up_same]
        · rw [up_ne _ _ q, up_ne _ _ q, HM.out i hi]
      have HD1 := hid hD1
      clear hD1
      go_wp2
      clear cu zu
      generalize (w1.setCell ⟨w.heap.size, u, none⟩ (.int .i64 0)) = w2 at HD1 ⊢
      go_loopw [17] (fun i wr => ∃ (r : Nat) (D : Nat → Int), r ≤ n ∧ i = .int .i64 (r : Int) ∧ Hid (RD w wr n D) ∧ Hid (Rx n off T (kmB kz m) u D r (4096 * r))) (fun i _ => n - (intOf i).toNat)
      case atStart => exact ⟨0, _, Nat.zero_le _, rfl, HD1, hid (Rx.start n off T (kmB kz m) u)⟩
      case round =>
        obtain ⟨r, D, hr, rfl, HD, HX⟩ := hrel
        obtain ⟨w3, rfl⟩ : ∃ w3, w3 = wr := ⟨_, rfl⟩
        clear HD1
        by_cases hlt : r < n
        · have q0 : decide ((r : Int) < (n : Int)) = true := by simp; omega
          go_wp2
          go_loopw [19, 18] (fun i c wr => ∃ (x : Nat) (D : Nat → Int) (ch : Bool), x ≤ n ∧ i = .int .i64 (x : Int) ∧ c = .bool ch ∧ Hid (RD w wr n D) ∧ Hid (Rr n off T (kmB kz m) u D r ch x (off x))) (fun i _ _ => n - (intOf i).toNat)
          case atStart => exact ⟨0, D, false, Nat.zero_le _, rfl, rfl, HD, hid (Rr.start HX.out)⟩
          case round =>
            obtain ⟨x, D, ch, hx, rfl, rfl, HD, HRr⟩ := hrel
            obtain ⟨w4, rfl⟩ : ∃ w4, w4 = wr := ⟨_, rfl⟩
            by_cases hxl : x < n
            · have q1 : decide ((x : Int) < (n : Int)) = true := by simp; omega
              have cx := HD.out.row.cell hxl
              have i0 : (0 : Int) ≤ (x : Int) := by omega
              have i1 : (x : Int) < (n : Int) := by omega
              by_cases hneg : D x < 0
              · have q2 : decide (D x < 0) = true := by simp [hneg]
                have HNEG := hid hneg
                clear hneg
                go_wp2
                go_roundw
                case rel => exact ⟨x + 1, D, ch, by omega, by go_num, rfl, HD, hid (HRr.out.skipNode HF.out.wf hxl HNEG.out)⟩
                case measure => simp [intOf]; omega
              · have q2 : decide (D x < 0) = false := by simp; omega
                have HPOS := hid (show 0 ≤ D x from by omega)
                clear hneg
                obtain ⟨og, eo, co⟩ := (HRW.out.1.below HD.out.bel).slice.2.2 x (by omega)
                subst eo
                have i2 : (x : Int) < (n : Int) + 1 := by omega
                have hmo := HF.out.mono x hxl
                have ho1 := HOFF.out (x + 1) (by omega)
                go_wp2
                clear cx co q2
                go_loopw [20, 18] (fun i c wr => ∃ (e : Nat) (D : Nat → Int) (ch : Bool), off x ≤ e ∧ e ≤ off (x + 1) ∧ i = .int .i32 (e : Int) ∧ c = .bool ch ∧ Hid (RD w wr n D) ∧ Hid (Rr n off T (kmB kz m) u D r ch x e) ∧ Hid (0 ≤ D x)) (fun i _ _ => off (x + 1) - (intOf i).toNat)
                case atStart => exact ⟨off x, D, ch, Nat.le_refl _, hmo, rfl, rfl, HD, HRr, HPOS⟩
                case round =>
                  obtain ⟨e, D, ch, he0, he1, rfl, rfl, HD, HRr, HPOS⟩ := hrel
                  obtain ⟨w5, rfl⟩ : ∃ w5, w5 = wr := ⟨_, rfl⟩
                  obtain ⟨og', eo, co⟩ := (HRW.out.1.below HD.out.bel).slice.2.2 (x + 1) (by omega)
                  cases eo
                  have j0 : (0 : Int) ≤ (x : Int) + 1 := by omega
                  have j1 : (x : Int) + 1 < (n : Int) + 1 := by omega
                  obtain ⟨o1, hoe⟩ : ∃ o1, off (x + 1) = o1 := ⟨_, rfl⟩
                  rw [hoe] at co
                  have HOE := hid hoe
                  by_cases hlt2 : e < o1
                  · have hen : e < off n := Nat.lt_of_lt_of_le (show e < off (x + 1) by omega) (HF.out.le (x := x + 1) (by omega) (Nat.le_refl _))
                    have hz0 : off 0 ≤ e := Nat.le_trans (HF.out.le (Nat.zero_le x) (by omega)) he0
                    have hent : e < nt := Nat.lt_of_lt_of_le hen HF.out.le1
                    have henk : e < nk := Nat.lt_of_lt_of_le hen HF.out.le2
                    obtain ⟨tg, et, ct⟩ := (HRW.out.2.1.below HD.out.bel).slice.2.2 e hent
                    obtain ⟨kg, ek, ck⟩ := (HRW.out.2.2.below HD.out.bel).slice.2.2 e henk
                    subst et
                    subst ek
                    obtain ⟨hte, htn⟩ := HF.out.tgt e hz0 hen
                    rw [hte] at ct
                    have i4 : (0 : Int) ≤ (e : Int) := by omega
                    have i5 : (e : Int) < (nt : Int) := by omega
                    have i6 : (e : Int) < (nk : Int) := by omega
                    obtain ⟨y, hy⟩ : ∃ y, T e = y := ⟨_, rfl⟩
                    rw [hy] at ct htn
                    obtain ⟨kv, hkv⟩ : ∃ kv, kz e = kv := ⟨_, rfl⟩
                    rw [hkv] at ck
                    have i7 : (0 : Int) ≤ (y : Int) := by omega
                    have i8 : (y : Int) < (n : Int) := by omega
                    have cx := HD.out.row.cell hxl
                    have cy := HD.out.row.cell htn
                    have zy := HD.out.row.frozen y
                    have hcap := HRr.out.rx.cap x
                    have hpos := HPOS.out
                    obtain ⟨dx, hdx⟩ : ∃ dx, D x = dx := ⟨_, rfl⟩
                    obtain ⟨dy, hdy⟩ : ∃ dy, D y = dy := ⟨_, rfl⟩
                    rw [hdx] at cx hcap hpos
                    rw [hdy] at cy
                    have hdx1 : dx ≤ 16781312 := by omega
                    have HE := hid (And.intro hy (And.intro hkv (And.intro hdx (And.intro hdy hoe))))
                    have q3 : decide ((e : Int) < (o1 : Int)) = true := by simp; omega
                    have wx : IntKind.i64.wrap (dx + 1) = dx + 1 := by rw [IntKind.wrap_i64]; omega
                    clear hoe hte hy hkv hdx hdy hen hz0 hcap hmo
                    by_cases hke : kmB kz m e = false
                    · have hz : (bits .and .u8 kv m == 0) = true := by rw [← HE.out.2.1]; simpa [kmB] using hke
                      go_wp2
                      go_roundw
                      case rel =>
                        exact ⟨e + 1, D, ch, by omega, by have := HE.out.2.2.2.2; omega, by go_num, rfl, HD, hid (HRr.out.skipEdge hxl (fun h => by rw [hke] at h; cases h)), HPOS⟩
                      case measure => have := HE.out.2.2.2.2; simp [intOf]; omega
                    · have hke : kmB kz m e = true := by simpa using hke
                      have hz : (bits .and .u8 kv m == 0) = false := by rw [← HE.out.2.1]; simpa [kmB] using hke
                      by_cases hny : dy < 0
                      · have qy : decide (dy < 0) = true := by simp [hny]
                        clear hny
                        go_wp2
                        go_quiet (fail)
                        go_wp2
                        have R1 := HRr.out.set hxl he0 (by have := HE.out.2.2.2.2; omega) hke HPOS.out HE.out.1 (.inl (by rw [HE.out.2.2.2.1]; simpa using qy))
                        rw [HE.out.2.2.1] at R1
                        have hp2 : 0 ≤ up D y (dx + 1) x := by
                          by_cases q : x = y
                          · rw [q, up_same]; omega
                          · rw [up_ne _ _ q]; exact HPOS.out
                        go_roundw
                        case rel =>
                          exact ⟨e + 1, up D y (dx + 1), true, by omega, by have := HE.out.2.2.2.2; omega, by go_num, rfl, hid ((HD.out.drewN _).set y (dx + 1)), hid R1, hid hp2⟩
                        case measure => have := HE.out.2.2.2.2; simp [intOf]; omega
                      · have qy : decide (dy < 0) = false := by simp; omega
                        have HNY := hid hny
                        by_cases hls : dx + 1 < dy
                        · have ql : decide (dx + 1 < dy) = true := by simp [hls]
                          have HLS := hid hls
                          clear hny hls
                          go_wp2
                          go_quiet (fail)
                          go_wp2
                          have R1 := HRr.out.set hxl he0 (by have := HE.out.2.2.2.2; omega) hke HPOS.out HE.out.1 (.inr (by rw [HE.out.2.2.1, HE.out.2.2.2.1]; exact HLS.out))
                          rw [HE.out.2.2.1] at R1
                          have hp2 : 0 ≤ up D y (dx + 1) x := by
                            by_cases q : x = y
                            · rw [q, up_same]; omega
                            · rw [up_ne _ _ q]; exact HPOS.out
                          go_roundw
                          case rel =>
                            exact ⟨e + 1, up D y (dx + 1), true, by omega, by have := HE.out.2.2.2.2; omega, by go_num, rfl, hid ((HD.out.drewN _).set y (dx + 1)), hid R1, hid hp2⟩
                          case measure => have := HE.out.2.2.2.2; simp [intOf]; omega
                        · have ql : decide (dx + 1 < dy) = false := by simp; omega
                          have HLS := hid hls
                          clear hny hls
                          go_wp2
                          go_quiet (fail)
                          go_wp2
                          go_roundw
                          case rel =>
                            exact ⟨e + 1, D, ch, by omega, by have := HE.out.2.2.2.2; omega, by go_num, rfl, hid (HD.out.drewN _), hid (HRr.out.skipEdge hxl (fun _ _ => by rw [HE.out.1, HE.out.2.2.1, HE.out.2.2.2.1]; have h1 := HNY.out; have h2 := HLS.out; omega)), HPOS⟩
                          case measure => have := HE.out.2.2.2.2; simp [intOf]; omega
                  · obtain rfl : o1 = e := by omega
                    have q3 : decide ((o1 : Int) < (o1 : Int)) = false := by simp
                    clear hlt2 he0 he1 hoe hmo
                    go_wp2
                    have R1 := HRr.out
                    rw [← HOE.out] at R1
                    go_roundw
                    case rel => exact ⟨x + 1, D, ch, by omega, by go_num, rfl, HD, hid R1.nextNode⟩
                    case measure => simp [intOf]; omega
            · obtain rfl : n = x := by omega
              have q1 : decide ((n : Int) < (n : Int)) = false := by simp
              clear hx hxl
              cases ch
              · have cv := HD.out.row.cell hv
                have v0 : (0 : Int) ≤ (v : Int) := by omega
                have v1 : (v : Int) < (n : Int) := by omega
                go_wp2
                go_ret
                exact ⟨D, rfl, HD.out.bel, HRr.out.fin HF.out.wf⟩
              · go_wp2
                go_roundw
                case rel => exact ⟨r + 1, D, by omega, by go_num, HD, hid (HRr.out.finish (HOFF.out n (Nat.le_refl _)))⟩
                case measure => simp [intOf]; omega
        · obtain rfl : n = r := by omega
          have q0 : decide ((n : Int) < (n : Int)) = false := by simp
          clear hr hlt
          have cv := HD.out.row.cell hv
          have v0 : (0 : Int) ≤ (v : Int) := by omega
          have v1 : (v : Int) < (n : Int) := by omega
          go_wp2
          go_ret
          exact ⟨D, rfl, HD.out.bel, HX.out.fin⟩

end Go.Proofs.Qxb6602859a
