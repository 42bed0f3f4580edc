import Derived.Test.Qxb6602859aP5
namespace Go.Proofs.Qxb6602859a
open Go.RowKit Kit
set_option linter.unusedVariables false

set_option maxHeartbeats 2000000 in
set_option maxRecDepth 100000 in
theorem pre_main (B bb n nr na rg ag rc ac : Nat) (C : Nat → Bool) (r a : Nat → Nat) (cv ev : Value) (N : Nat) (E : List Edge) (w : World)
    (hnr : 0 < nr) (hna : 0 < na) (hnr2 : nr ≤ 4096) (hna2 : na ≤ 4096) (hn : n ≤ N) (hN : N ≤ 2147483647) (hlen : E.length ≤ 65536)
    (hr : ∀ i, i < nr → r i < n) (ha : ∀ i, i < na → a i < n)
    (rowR : w.rowIs rg 3 nr (fun i => .int .i64 (r i : Int))) (rowA : w.rowIs ag 3 na (fun i => .int .i64 (a i : Int)))
    (hC : Row w 4 cv n (fun i => .bool (C i))) (hbs : BS w B bb cv (N : Int) ev E) (sepR : ¬ SB bb ev rg) (sepC : ∀ g c, cv = .slice (some ⟨g, 0, none⟩) n c → ¬ SB bb ev g) :
    Calls Try.prog 29 #[.pointer (some ⟨bb, 0, none⟩), .slice (some ⟨rg, 0, none⟩) nr rc, .slice (some ⟨ag, 0, none⟩) na ac] w fun e w' => e = .returned (.tuple #[]) ∧ PreOut B bb n nr na C r a cv ev N E w w' := by
  have q1 : ((nr : Int) == 0) = false := by simp; omega
  have q2 : ((na : Int) == 0) = false := by simp; omega
  have hmm := fun u z => run_makeMap_some (P := Try.prog) 66 3 4 Try.underlying66 .i64 z u
  obtain ⟨i0, hi, hz0, hz1, hz2⟩ := info_parts Try.info3
  have RR := hid rowR
  have RA := hid rowA
  have HC := hid hC
  have HBS := hid hbs
  have SR := hid sepR
  have SC := hid sepC
  have HR := hid hr
  have HA := hid ha
  clear rowR rowA hC hbs sepR sepC hr ha
  go_enter Try.func29, Try.ntmps29
  go_wp2
  go_loopw [8, 34] (fun _ i wr => ∃ k : Nat, k ≤ nr ∧ i = .int .i64 k ∧ Hid (SetI wr w.heap.size k (memI r k) ∧ (w.alloc (.map #[] 0)).grownBy wr (some w.heap.size))) (fun _ i _ => nr - (intOf i).toNat)
  case atStart => exact ⟨0, Nat.zero_le _, rfl, hid ⟨(SetI.made w).congr (fun _ => rfl), World.grownBy.refl _ _⟩⟩
  case round =>
    obtain ⟨k, hk, rfl, HS⟩ := hrel
    have hbw : Below w.heap.size w wr := ((Below.refl _ _).alloc (Nat.le_refl _) _).grown HS.out.2 (by simp) (fun k hk => by cases hk; exact Nat.le_refl _)
    have HBW := hid hbw
    clear hbw
    by_cases hlt : k < nr
    · have ck := cell_later HBW.out (RR.out.cell hlt)
      have hrk := HR.out k hlt
      go_wp2_with (at_mapUpdate; refine wpList_put_setI _ rfl _ _ _ rfl w.heap.size k (memI r k) rfl HS.out.1 (by unfold maxLen; omega) (r k : Int) rfl rfl (by omega) (by omega) ?_; intro w5 h5 g5; have H5 := hid h5; have G5 := hid g5; clear h5 g5)
      go_roundw
      case rel => exact ⟨k + 1, by omega, by go_num, hid ⟨H5.out, HS.out.2.trans G5.out⟩⟩
      case measure => simp [intOf]; omega
    · obtain rfl : nr = k := by omega
      obtain ⟨w1, rfl⟩ : ∃ w1, w1 = wr := ⟨_, rfl⟩
      have hwz : w.heap.size + 1 ≤ w1.heap.size := by have := HS.out.2.size; simpa using this
      go_wp2
      go_loopw [9, 10, 12, 43] (fun bv ov _ i wr => ∃ k : Nat, k ≤ na ∧ i = .int .i64 k ∧ Hid (Two w1.heap.size w1 wr bv ov (pick true r nr a k) (pick false r nr a k))) (fun _ _ _ i _ => na - (intOf i).toNat)
      case atStart => exact ⟨0, Nat.zero_le _, rfl, hid ⟨World.ownsRow_nil _ _ _ _, World.ownsRow_nil _ _ _ _, (fun g hg => by cases hg), Below.refl _ _, Nat.le_refl _⟩⟩
      case round =>
        obtain ⟨k, hk2, rfl, HT⟩ := hrel
        by_cases hlt2 : k < na
        · have ck := cell_later (HT.out.below) (cell_later HBW.out (RA.out.cell hlt2))
          have hak := HA.out k hlt2
          have hset : SetI wr w.heap.size nr (memI r nr) := HS.out.1.kept (Kept.of_below (S := fun _ => False) HT.out.below) (fun h => h)
          have hlook := hset.look (x := (a k : Int)) (by omega) (by omega)
          have hlb := pick_len true r nr a k
          have hlo := pick_len false r nr a k
          obtain ⟨ba, bc, rfl, hb1, hb2⟩ := own3_slice HT.out.both
          obtain ⟨oa, oc, rfl, ho1, ho2⟩ := own3_slice HT.out.others
          clear hset
          cases hm : memI r nr (a k : Int)
          · rw [hm] at hlook
            have HP1 := hid (pick_hit hm)
            have HP2 := hid (pick_miss (b := true) hm)
            go_wp2_with (at_builtin; refine wpList_append_own_at _ rfl _ _ 36 rfl w1.heap.size 3 i0 (.int .i64 0) 1 8 Try.underlying36 hi hz0 hz1 hz2 rfl (by decide) (.slice oa (pick false r nr a k).length oc) (pick false r nr a k).length (cellsI (pick false r nr a k)) rfl (HT.out.others.alloc _) ⟨wr.heap.size, 0, none⟩ 1 1 [.int .i64 (a k : Int)] rfl rfl (cell_one_new _ _ _) (by simp [Value.oneCell']) (by unfold maxLen; omega) (by omega) (by have := HT.out.size; simp; omega) ?_; intro v' w4 hown' hgrow hnl hloc; have HT2 := hid (HT.out.pushOthers hown' hgrow (by simpa using hloc)); obtain ⟨g', cap', rfl, hcc1, hcc2⟩ := own3_shape hown'; clear hown' hgrow hloc hnl)
            go_roundw
            case rel =>
              refine ⟨k + 1, by omega, by go_num, ?_⟩
              rw [HP1.out, HP2.out]; exact HT2
            case measure => simp [intOf]; omega
          · rw [hm] at hlook
            have HP1 := hid (pick_hit hm)
            have HP2 := hid (pick_miss (b := false) hm)
            go_wp2_with (at_builtin; refine wpList_append_own_at _ rfl _ _ 36 rfl w1.heap.size 3 i0 (.int .i64 0) 1 8 Try.underlying36 hi hz0 hz1 hz2 rfl (by decide) (.slice ba (pick true r nr a k).length bc) (pick true r nr a k).length (cellsI (pick true r nr a k)) rfl (HT.out.both.alloc _) ⟨wr.heap.size, 0, none⟩ 1 1 [.int .i64 (a k : Int)] rfl rfl (cell_one_new _ _ _) (by simp [Value.oneCell']) (by unfold maxLen; omega) (by omega) (by have := HT.out.size; simp; omega) ?_; intro v' w4 hown' hgrow hnl hloc; have HT2 := hid (HT.out.pushBoth hown' hgrow (by simpa using hloc)); obtain ⟨g', cap', rfl, hcc1, hcc2⟩ := own3_shape hown'; clear hown' hgrow hloc hnl)
            go_roundw
            case rel =>
              refine ⟨k + 1, by omega, by go_num, ?_⟩
              rw [HP1.out, HP2.out]; exact HT2
            case measure => simp [intOf]; omega
        · obtain rfl : na = k := by omega
          obtain ⟨w2, rfl⟩ : ∃ w2, w2 = wr := ⟨_, rfl⟩
          have hs12 := HT.out.size
          have HB12 := hid (HBW.out.trans (HT.out.below.mono (by omega)))
          have HC2 := hid (HC.out.kept (Kept.of_below (S := fun _ => False) HB12.out) (fun _ _ _ h => h))
          have HBS2 := hid (HBS.out.kept (Kept.of_below (S := fun _ => False) HB12.out) (fun h => h) (fun _ _ h => h))
          have HR2 := hid (RR.out.of_block (HB12.out.block rg RR.out.lt))
          have hpm : ∀ x, x ∈ pick true r nr a na → x ≤ 2147483647 := (fun x hx => by
            obtain ⟨⟨i, hi, rfl⟩, _⟩ := pick_mem.1 hx
            have := HA.out i hi; omega)
          have hpo : ∀ x, x ∈ pick false r nr a na → x ≤ 2147483647 := (fun x hx => by
            obtain ⟨⟨i, hi, rfl⟩, _⟩ := pick_mem.1 hx
            have := HA.out i hi; omega)
          have hbol := pick_len true r nr a na
          have hotl := pick_len false r nr a na
          obtain ⟨ba, bc, rfl, hb1, hb2⟩ := own3_slice HT.out.both
          obtain ⟨oa, oc, rfl, ho1, ho2⟩ := own3_slice HT.out.others
          unfold maxLen at hb2 ho2
          have hbe : ∃ bo, bo = pick true r nr a na := ⟨_, rfl⟩
          have hoe : ∃ ot, ot = pick false r nr a na := ⟨_, rfl⟩
          obtain ⟨bo, ebo⟩ := hbe
          obtain ⟨ot, eot⟩ := hoe
          obtain ⟨bl, ebl⟩ : ∃ bl, bl = bo.length := ⟨_, rfl⟩
          obtain ⟨ol, eol⟩ : ∃ ol, ol = ot.length := ⟨_, rfl⟩
          rw [← ebo] at HT hpm hbol hb1
          rw [← eot] at HT hpo hotl ho1
          have HTB := hid HT.out.both
          have HTO := hid HT.out.others
          rw [← ebl] at HTB hbol hb1
          rw [← eol] at HTO hotl ho1
          rw [← ebo, ← eot, ← ebl, ← eol]
          have EBO := hid ebo
          have EOT := hid eot
          have EBL := hid ebl
          have EOL := hid eol
          have HBL := hid hpm
          have HOL := hid hpo
          clear ebo eot ebl eol hpm hpo
          obtain ⟨fb, efb⟩ : ∃ fb : Nat → Nat, fb = fun i => bo.getD i 0 := ⟨_, rfl⟩
          obtain ⟨fo, efo⟩ : ∃ fo : Nat → Nat, fo = fun i => ot.getD i 0 := ⟨_, rfl⟩
          have HFB : Hid (∀ i, i < bl → fb i ≤ 2147483647) := hid (fun i hi => by rw [efb]; exact HBL.out _ (getD_mem (by rw [← EBL.out]; exact hi)))
          have HFO : Hid (∀ i, i < ol → fo i ≤ 2147483647) := hid (fun i hi => by rw [efo]; exact HOL.out _ (getD_mem (by rw [← EOL.out]; exact hi)))
          have EFB := hid efb
          have EFO := hid efo
          clear efb efo
          have HBO : Hid (∀ i, i < bl → ∃ g, ba = some ⟨g, 0, none⟩ ∧ w2.cell? ⟨g, i, none⟩ = some (.int .i64 ((fb i : Nat) : Int))) := hid (fun i hi => by
            obtain ⟨g, c, e, h⟩ := (own3_cell HTB.out).2 i (by rw [← EBL.out]; exact hi)
            simp only [Value.slice.injEq] at e
            rw [EFB.out]; exact ⟨g, e.1, h⟩)
          have HOT : Hid (∀ i, i < ol → ∃ g, oa = some ⟨g, 0, none⟩ ∧ w2.cell? ⟨g, i, none⟩ = some (.int .i64 ((fo i : Nat) : Int))) := hid (fun i hi => by
            obtain ⟨g, c, e, h⟩ := (own3_cell HTO.out).2 i (by rw [← EOL.out]; exact hi)
            simp only [Value.slice.injEq] at e
            rw [EFO.out]; exact ⟨g, e.1, h⟩)
          have HNS : Hid (∀ g, ba = some ⟨g, 0, none⟩ → ¬ SB bb ev g) := hid (fun g e => HBS.out.notNew (by
            have := (own3_lt (g := g) HTB.out (by rw [e]; rfl)).2; omega))
          have HNO : Hid (∀ g, oa = some ⟨g, 0, none⟩ → ¬ SB bb ev g) := hid (fun g e => HBS.out.notNew (by
            have := (own3_lt (g := g) HTO.out (by rw [e]; rfl)).2; omega))
          clear HT
          by_cases hot : ol = 0
          · subst hot
            have hw24 : w2.heap.size ≤ w2.heap.size := Nat.le_refl _
            have HE : Hid (ES B bb n C cv (N : Int) E w2 w2 ev ev [] (fun _ _ => False) na) := hid ⟨by rw [List.append_nil]; exact HBS2.out, NewIs.nil C n, Nat.zero_le _, Ch.refl _ _ _ _⟩
            go_wp2
            go_loopw [17, 18, 80] (fun _ _ i wr => ∃ k : Nat, k ≤ bl ∧ i = .int .i64 k ∧ Hid (SetI wr w2.heap.size k (memI fb k) ∧ ∃ ev5 new5, ES B bb n C cv (N : Int) E w2 wr ev ev5 new5 (fun u v => (fun _ _ => False) u v ∨ ∃ j, j < k ∧ u = fb j ∧ v = fb ((j + 1) % bl)) (na + k))) (fun _ _ i _ => bl - (intOf i).toNat)
            case atStart =>
              refine ⟨0, Nat.zero_le _, rfl, hid ⟨(SetI.made w2).congr (fun _ => rfl), _, _, ((HE.out.other (Kept.of_below (S := fun _ => False) ((Below.refl _ _).alloc (Nat.le_refl _) _)) (fun g h => h.elim) (fun g h => h.elim)).congr (fun u v => ?_) (by omega))⟩⟩
              constructor
              · exact fun h => .inl h
              · rintro (h | ⟨j, hj, _⟩)
                · exact h
                · omega
            case round =>
              obtain ⟨k, hk4, rfl, HS4⟩ := hrel
              obtain ⟨ev5, new5, hes5⟩ := HS4.out.2
              have HE5 := hid hes5
              clear hes5
              by_cases hlt4 : k < bl
              · obtain ⟨gb, rfl, hcb⟩ := HBO.out k hlt4
                obtain ⟨gb', ebv', hcb'⟩ := HBO.out ((k + 1) % bl) (Nat.mod_lt _ (by omega))
                cases ebv'
                have hnsb : ¬ SB bb ev gb := HNS.out gb rfl
                have hd1 := HE5.out.cell hcb hnsb
                have hd2 := HE5.out.cell hcb' hnsb
                have hbk := HFB.out k hlt4
                have hbk' := HFB.out ((k + 1) % bl) (Nat.mod_lt _ (by omega))
                have hm1 : (0 : Int) ≤ ((k : Int) + 1) % (bl : Int) := Int.emod_nonneg _ (by omega)
                have hm2 : ((k : Int) + 1) % (bl : Int) < (bl : Int) := Int.emod_lt_of_pos _ (by omega)
                have hgb : gb < w2.heap.size := World.block_lt_of_cell? _ _ hcb
                go_wp2_with (at_mapUpdate; refine wpList_put_setI _ rfl _ _ _ rfl w2.heap.size k (memI fb k) rfl HS4.out.1 (by unfold maxLen; omega) ((fb k : Nat) : Int) rfl rfl (by omega) (by omega) ?_; intro w5 h5 g5; have H5 := hid h5; have G5 := hid (Kept.grown (S := fun g => g = w2.heap.size) g5 (fun g hg => by cases hg; rfl)); have hd3 := G5.out.cell hd2 (fun e => by have e' : gb = w2.heap.size := e; omega); clear h5 g5)
                have HE6 := hid (HE5.out.other G5.out (fun g e => by subst e; exact hw24) (fun g e => by subst e; exact HE5.out.bs.notMap HS4.out.1))
                refine (add_any B bb n C cv ev5 (N : Int) (E ++ new5) (fb k) (fb ((k + 1) % bl)) w5 hbk hbk' (by have := HE5.out.len; rw [List.length_append]; omega) (HE6.out.row HC2.out SC.out) HE6.out.bs).mono ?_
                rintro e w6 ⟨rfl, ev6, E6, hbs6, hy6, hn6, hk6, hl6⟩
                have HS6 := hid (H5.out.kept hk6 (HE6.out.bs.notMap H5.out))
                obtain ⟨new6, hes6⟩ := HE6.out.step hbs6 hy6 hn6 hk6 hl6
                have HE7 := hid hes6
                clear hbs6 hy6 hn6 hk6 hl6 hes6 hd1 hd2 hd3
                go_wp2
                go_roundw
                case rel =>
                  refine ⟨k + 1, by omega, by go_num, hid ⟨HS6.out, ev6, new6, HE7.out.congr (fun u v => ?_) (by omega)⟩⟩
                  constructor
                  · rintro ((h | ⟨j, hj, h1, h2⟩) | ⟨h1, h2⟩)
                    · exact .inl h
                    · exact .inr ⟨j, by omega, h1, h2⟩
                    · exact .inr ⟨k, by omega, h1, h2⟩
                  · rintro (h | ⟨j, hj, h1, h2⟩)
                    · exact .inl (.inl h)
                    · rcases Nat.lt_or_ge j k with h | h
                      · exact .inl (.inr ⟨j, h, h1, h2⟩)
                      · obtain rfl : j = k := by omega
                        exact .inr ⟨h1, h2⟩
                case measure => simp [intOf]; omega
              · obtain rfl : bl = k := by omega
                go_wp2
                go_loopw [20, 101] (fun _ i wr => ∃ k : Nat, k ≤ nr ∧ i = .int .i64 k ∧ Hid (SetI wr w2.heap.size bl (memI fb bl) ∧ ∃ ev5 new5, ES B bb n C cv (N : Int) E w2 wr ev ev5 new5 (fun u v => (fun u v => (fun _ _ => False) u v ∨ ∃ j, j < bl ∧ u = fb j ∧ v = fb ((j + 1) % bl)) u v ∨ ∃ j, j < k ∧ ((r j ∉ bo ∧ bo ≠ [] ∧ u = r j ∧ v = fb 0))) (na + bl + 2 * k))) (fun _ i _ => nr - (intOf i).toNat)
                case atStart =>
                  refine ⟨0, Nat.zero_le _, rfl, hid ⟨HS4.out.1, ev5, new5, HE5.out.congr (fun u v => ?_) (by omega)⟩⟩
                  constructor
                  · exact fun h => .inl h
                  · rintro (h | ⟨j, hj, _⟩)
                    · exact h
                    · omega
                case round =>
                  clear HS4 HE5
                  obtain ⟨k, hk5, rfl, HS4⟩ := hrel
                  obtain ⟨ev7, new7, hes7⟩ := HS4.out.2
                  have HE8 := hid hes7
                  clear hes7
                  by_cases hlt5 : k < nr
                  · have hrc := HE8.out.cell (HR2.out.cell hlt5) SR.out
                    have hrk := HR.out k hlt5
                    have hlook0 := HS4.out.1.look (x := (r k : Int)) (by omega) (by omega)
                    obtain ⟨wX, rfl⟩ : ∃ wX, wX = wr := ⟨_, rfl⟩
                    obtain ⟨evX, rfl⟩ : ∃ evX, evX = ev7 := ⟨_, rfl⟩
                    obtain ⟨newX, rfl⟩ : ∃ newX, newX = new7 := ⟨_, rfl⟩
                    have HSX := hid HS4.out.1
                    have HEX := HE8
                    have hlook := hlook0
                    clear hlook0
                    cases hm : memI fb bl (r k : Int)
                    · rw [hm] at hlook
                      by_cases hb0 : bl = 0
                      · have q5 : ¬ (0 : Int) < (bl : Int) := by omega
                        have HB0 := hid hb0
                        clear hb0
                        go_wp2
                        go_roundw
                        case rel =>
                          refine ⟨k + 1, by omega, by go_num, hid ⟨HSX.out, evX, newX, HEX.out.congr (fun u v => ?_) (by omega)⟩⟩
                          exact prN_none (P := (fun u v => (fun _ _ => False) u v ∨ ∃ j, j < bl ∧ u = fb j ∧ v = fb ((j + 1) % bl))) hm HB0.out EFB.out EBL.out u v
                        case measure => simp [intOf]; omega
                      · have q5 : (0 : Int) < (bl : Int) := by omega
                        obtain ⟨gb, rfl, hcb⟩ := HBO.out 0 (by omega)
                        have hd1 := HEX.out.cell hcb (HNS.out gb rfl)
                        have hf0 := HFB.out 0 (by omega)
                        go_wp2_with fail
                        refine (add_any B bb n C cv evX (N : Int) (E ++ newX) (r k) (fb 0) wX (by omega) hf0 (by have := HEX.out.len; rw [List.length_append]; omega) (HEX.out.row HC2.out SC.out) HEX.out.bs).mono ?_
                        rintro e w9 ⟨rfl, ev9, E9, hbs9, hy9, hn9, hk9, hl9⟩
                        have HS9 := hid (HSX.out.kept hk9 (HEX.out.bs.notMap HSX.out))
                        obtain ⟨new9, hes9⟩ := HEX.out.step hbs9 hy9 hn9 hk9 hl9
                        have HE9 := hid hes9
                        clear hbs9 hy9 hn9 hk9 hl9 hes9 hd1
                        go_wp2
                        go_roundw
                        case rel =>
                          refine ⟨k + 1, by omega, by go_num, hid ⟨HS9.out, ev9, new9, HE9.out.congr (fun u v => ?_) (by omega)⟩⟩
                          exact prN_both (P := (fun u v => (fun _ _ => False) u v ∨ ∃ j, j < bl ∧ u = fb j ∧ v = fb ((j + 1) % bl))) hm hb0 EFB.out EBL.out u v
                        case measure => simp [intOf]; omega
                    · rw [hm] at hlook
                      go_wp2
                      go_roundw
                      case rel =>
                        refine ⟨k + 1, by omega, by go_num, hid ⟨HSX.out, evX, newX, HEX.out.congr (fun u v => ?_) (by omega)⟩⟩
                        exact prN_in (P := (fun u v => (fun _ _ => False) u v ∨ ∃ j, j < bl ∧ u = fb j ∧ v = fb ((j + 1) % bl))) hm EFB.out EBL.out u v
                      case measure => simp [intOf]; omega
                  · obtain rfl : nr = k := by omega
                    go_wp2
                    go_end0
                    refine ⟨rfl, ev7, new7, ?_⟩
                    exact finN HE8.out EBO.out EOT.out EFB.out EFO.out EBL.out EOL.out HB12.out
          · have q4 : (0 : Int) < (ol : Int) := by omega
            go_wp2_with fail
            refine (virtual_any bb (N : Int) w2 (by omega) (by omega) HBS2.out.c1 HBS2.out.f1).mono ?_
            rintro e wv ⟨rfl, hwv⟩
            have HE0 : Hid (ES B bb n C cv ((N : Int) + 1) E w2 wv ev ev [] (fun _ _ => False) 0) := hid (by
              rw [hwv]
              exact ⟨by rw [List.append_nil]; exact HBS2.out.nodes _, NewIs.nil C n, Nat.zero_le _, ⟨(Kept.refl _ _).setCell (.inl (.inl (.inl rfl))) _, .inl rfl⟩⟩)
            clear hwv
            go_wp2
            go_loopw [15, 66] (fun _ i wr => ∃ k : Nat, k ≤ ol ∧ i = .int .i64 k ∧ Hid (∃ ev5 new5, ES B bb n C cv ((N : Int) + 1) E w2 wr ev ev5 new5 (fun u v => u = N ∧ ∃ j, j < k ∧ v = fo j) k)) (fun _ i _ => ol - (intOf i).toNat)
            case atStart =>
              refine ⟨0, Nat.zero_le _, rfl, hid ⟨ev, [], HE0.out.congr (fun u v => ?_) (Nat.le_refl _)⟩⟩
              constructor
              · exact fun h => h.elim
              · rintro ⟨_, j, hj, _⟩; omega
            case round =>
              obtain ⟨k, hk3, rfl, HS3⟩ := hrel
              obtain ⟨ev5, new5, hes5⟩ := HS3.out
              have HE5 := hid hes5
              clear hes5
              by_cases hlt3 : k < ol
              · obtain ⟨go, rfl, hco⟩ := HOT.out k hlt3
                have hd1 := HE5.out.cell hco (HNO.out go rfl)
                have hfk := HFO.out k hlt3
                go_wp2_with fail
                refine (add_any B bb n C cv ev5 ((N : Int) + 1) (E ++ new5) N (fo k) _ hN hfk (by have := HE5.out.len; rw [List.length_append]; omega) (HE5.out.row HC2.out SC.out) HE5.out.bs).mono ?_
                rintro e w6 ⟨rfl, ev6, E6, hbs6, hy6, hn6, hk6, hl6⟩
                obtain ⟨new6, hes6⟩ := HE5.out.step hbs6 hy6 hn6 hk6 hl6
                have HE7 := hid hes6
                clear hbs6 hy6 hn6 hk6 hl6 hes6 hd1
                go_wp2
                go_roundw
                case rel =>
                  refine ⟨k + 1, by omega, by go_num, hid ⟨ev6, new6, HE7.out.congr (fun u v => ?_) (by omega)⟩⟩
                  constructor
                  · rintro (⟨h1, j, hj, h2⟩ | ⟨h1, h2⟩)
                    · exact ⟨h1, j, by omega, h2⟩
                    · exact ⟨h1, k, by omega, h2⟩
                  · rintro ⟨h1, j, hj, h2⟩
                    rcases Nat.lt_or_ge j k with h | h
                    · exact .inl ⟨h1, j, h, h2⟩
                    · obtain rfl : j = k := by omega
                      exact .inr ⟨h1, h2⟩
                case measure => simp [intOf]; omega
              · obtain rfl : ol = k := by omega
                obtain ⟨w4, rfl⟩ : ∃ w4, w4 = wr := ⟨_, rfl⟩
                have hw24 := HE5.out.ch.kept.size
                have HE := hid (HE5.out.congr (fun _ _ => Iff.rfl) hotl)
                clear HE5 HE0 HS3
                go_wp2
                go_loopw [17, 18, 80] (fun _ _ i wr => ∃ k : Nat, k ≤ bl ∧ i = .int .i64 k ∧ Hid (SetI wr w4.heap.size k (memI fb k) ∧ ∃ ev5 new5, ES B bb n C cv ((N : Int) + 1) E w2 wr ev ev5 new5 (fun u v => (fun u v => u = N ∧ ∃ j, j < ol ∧ v = fo j) u v ∨ ∃ j, j < k ∧ u = fb j ∧ v = fb ((j + 1) % bl)) (na + k))) (fun _ _ i _ => bl - (intOf i).toNat)
                case atStart =>
                  refine ⟨0, Nat.zero_le _, rfl, hid ⟨(SetI.made w4).congr (fun _ => rfl), _, _, ((HE.out.other (Kept.of_below (S := fun _ => False) ((Below.refl _ _).alloc (Nat.le_refl _) _)) (fun g h => h.elim) (fun g h => h.elim)).congr (fun u v => ?_) (by omega))⟩⟩
                  constructor
                  · exact fun h => .inl h
                  · rintro (h | ⟨j, hj, _⟩)
                    · exact h
                    · omega
                case round =>
                  obtain ⟨k, hk4, rfl, HS4⟩ := hrel
                  obtain ⟨ev5, new5, hes5⟩ := HS4.out.2
                  have HE5 := hid hes5
                  clear hes5
                  by_cases hlt4 : k < bl
                  · obtain ⟨gb, rfl, hcb⟩ := HBO.out k hlt4
                    obtain ⟨gb', ebv', hcb'⟩ := HBO.out ((k + 1) % bl) (Nat.mod_lt _ (by omega))
                    cases ebv'
                    have hnsb : ¬ SB bb ev gb := HNS.out gb rfl
                    have hd1 := HE5.out.cell hcb hnsb
                    have hd2 := HE5.out.cell hcb' hnsb
                    have hbk := HFB.out k hlt4
                    have hbk' := HFB.out ((k + 1) % bl) (Nat.mod_lt _ (by omega))
                    have hm1 : (0 : Int) ≤ ((k : Int) + 1) % (bl : Int) := Int.emod_nonneg _ (by omega)
                    have hm2 : ((k : Int) + 1) % (bl : Int) < (bl : Int) := Int.emod_lt_of_pos _ (by omega)
                    have hgb : gb < w2.heap.size := World.block_lt_of_cell? _ _ hcb
                    go_wp2_with (at_mapUpdate; refine wpList_put_setI _ rfl _ _ _ rfl w4.heap.size k (memI fb k) rfl HS4.out.1 (by unfold maxLen; omega) ((fb k : Nat) : Int) rfl rfl (by omega) (by omega) ?_; intro w5 h5 g5; have H5 := hid h5; have G5 := hid (Kept.grown (S := fun g => g = w4.heap.size) g5 (fun g hg => by cases hg; rfl)); have hd3 := G5.out.cell hd2 (fun e => by have e' : gb = w4.heap.size := e; omega); clear h5 g5)
                    have HE6 := hid (HE5.out.other G5.out (fun g e => by subst e; exact hw24) (fun g e => by subst e; exact HE5.out.bs.notMap HS4.out.1))
                    refine (add_any B bb n C cv ev5 ((N : Int) + 1) (E ++ new5) (fb k) (fb ((k + 1) % bl)) w5 hbk hbk' (by have := HE5.out.len; rw [List.length_append]; omega) (HE6.out.row HC2.out SC.out) HE6.out.bs).mono ?_
                    rintro e w6 ⟨rfl, ev6, E6, hbs6, hy6, hn6, hk6, hl6⟩
                    have HS6 := hid (H5.out.kept hk6 (HE6.out.bs.notMap H5.out))
                    obtain ⟨new6, hes6⟩ := HE6.out.step hbs6 hy6 hn6 hk6 hl6
                    have HE7 := hid hes6
                    clear hbs6 hy6 hn6 hk6 hl6 hes6 hd1 hd2 hd3
                    go_wp2
                    go_roundw
                    case rel =>
                      refine ⟨k + 1, by omega, by go_num, hid ⟨HS6.out, ev6, new6, HE7.out.congr (fun u v => ?_) (by omega)⟩⟩
                      constructor
                      · rintro ((h | ⟨j, hj, h1, h2⟩) | ⟨h1, h2⟩)
                        · exact .inl h
                        · exact .inr ⟨j, by omega, h1, h2⟩
                        · exact .inr ⟨k, by omega, h1, h2⟩
                      · rintro (h | ⟨j, hj, h1, h2⟩)
                        · exact .inl (.inl h)
                        · rcases Nat.lt_or_ge j k with h | h
                          · exact .inl (.inr ⟨j, h, h1, h2⟩)
                          · obtain rfl : j = k := by omega
                            exact .inr ⟨h1, h2⟩
                    case measure => simp [intOf]; omega
                  · obtain rfl : bl = k := by omega
                    go_wp2
                    go_loopw [20, 101] (fun _ i wr => ∃ k : Nat, k ≤ nr ∧ i = .int .i64 k ∧ Hid (SetI wr w4.heap.size bl (memI fb bl) ∧ ∃ ev5 new5, ES B bb n C cv ((N : Int) + 1) E w2 wr ev ev5 new5 (fun u v => (fun u v => (fun u v => u = N ∧ ∃ j, j < ol ∧ v = fo j) u v ∨ ∃ j, j < bl ∧ u = fb j ∧ v = fb ((j + 1) % bl)) u v ∨ ∃ j, j < k ∧ ((u = r j ∧ v = N) ∨ (r j ∉ bo ∧ bo ≠ [] ∧ u = r j ∧ v = fb 0))) (na + bl + 2 * k))) (fun _ i _ => nr - (intOf i).toNat)
                    case atStart =>
                      refine ⟨0, Nat.zero_le _, rfl, hid ⟨HS4.out.1, ev5, new5, HE5.out.congr (fun u v => ?_) (by omega)⟩⟩
                      constructor
                      · exact fun h => .inl h
                      · rintro (h | ⟨j, hj, _⟩)
                        · exact h
                        · omega
                    case round =>
                      clear HS4 HE5
                      obtain ⟨k, hk5, rfl, HS4⟩ := hrel
                      obtain ⟨ev7, new7, hes7⟩ := HS4.out.2
                      have HE8 := hid hes7
                      clear hes7
                      by_cases hlt5 : k < nr
                      · have hrc := HE8.out.cell (HR2.out.cell hlt5) SR.out
                        have hrk := HR.out k hlt5
                        have hlook0 := HS4.out.1.look (x := (r k : Int)) (by omega) (by omega)
                        go_wp2_with fail
                        refine (add_any B bb n C cv ev7 ((N : Int) + 1) (E ++ new7) (r k) N _ (by omega) hN (by have := HE8.out.len; rw [List.length_append]; omega) (HE8.out.row HC2.out SC.out) HE8.out.bs).mono ?_
                        rintro e wX ⟨rfl, evX, EX, hbsX, hyX, hnX, hkX, hlX⟩
                        have HSX := hid (HS4.out.1.kept hkX (HE8.out.bs.notMap HS4.out.1))
                        obtain ⟨newX, hesX⟩ := HE8.out.step hbsX hyX hnX hkX hlX
                        have HEX := hid hesX
                        have hlook := HSX.out.look (x := (r k : Int)) (by omega) (by omega)
                        clear hbsX hyX hnX hkX hlX hesX hlook0 hrc
                        cases hm : memI fb bl (r k : Int)
                        · rw [hm] at hlook
                          by_cases hb0 : bl = 0
                          · have q5 : ¬ (0 : Int) < (bl : Int) := by omega
                            have HB0 := hid hb0
                            clear hb0
                            go_wp2
                            go_roundw
                            case rel =>
                              refine ⟨k + 1, by omega, by go_num, hid ⟨HSX.out, evX, newX, HEX.out.congr (fun u v => ?_) (by omega)⟩⟩
                              exact prV_none (P := (fun u v => (fun u v => u = N ∧ ∃ j, j < ol ∧ v = fo j) u v ∨ ∃ j, j < bl ∧ u = fb j ∧ v = fb ((j + 1) % bl))) hm HB0.out EFB.out EBL.out u v
                            case measure => simp [intOf]; omega
                          · have q5 : (0 : Int) < (bl : Int) := by omega
                            obtain ⟨gb, rfl, hcb⟩ := HBO.out 0 (by omega)
                            have hd1 := HEX.out.cell hcb (HNS.out gb rfl)
                            have hf0 := HFB.out 0 (by omega)
                            go_wp2_with fail
                            refine (add_any B bb n C cv evX ((N : Int) + 1) (E ++ newX) (r k) (fb 0) wX (by omega) hf0 (by have := HEX.out.len; rw [List.length_append]; omega) (HEX.out.row HC2.out SC.out) HEX.out.bs).mono ?_
                            rintro e w9 ⟨rfl, ev9, E9, hbs9, hy9, hn9, hk9, hl9⟩
                            have HS9 := hid (HSX.out.kept hk9 (HEX.out.bs.notMap HSX.out))
                            obtain ⟨new9, hes9⟩ := HEX.out.step hbs9 hy9 hn9 hk9 hl9
                            have HE9 := hid hes9
                            clear hbs9 hy9 hn9 hk9 hl9 hes9 hd1
                            go_wp2
                            go_roundw
                            case rel =>
                              refine ⟨k + 1, by omega, by go_num, hid ⟨HS9.out, ev9, new9, HE9.out.congr (fun u v => ?_) (by omega)⟩⟩
                              exact prV_both (P := (fun u v => (fun u v => u = N ∧ ∃ j, j < ol ∧ v = fo j) u v ∨ ∃ j, j < bl ∧ u = fb j ∧ v = fb ((j + 1) % bl))) hm hb0 EFB.out EBL.out u v
                            case measure => simp [intOf]; omega
                        · rw [hm] at hlook
                          go_wp2
                          go_roundw
                          case rel =>
                            refine ⟨k + 1, by omega, by go_num, hid ⟨HSX.out, evX, newX, HEX.out.congr (fun u v => ?_) (by omega)⟩⟩
                            exact prV_in (P := (fun u v => (fun u v => u = N ∧ ∃ j, j < ol ∧ v = fo j) u v ∨ ∃ j, j < bl ∧ u = fb j ∧ v = fb ((j + 1) % bl))) hm EFB.out EBL.out u v
                          case measure => simp [intOf]; omega
                      · obtain rfl : nr = k := by omega
                        go_wp2
                        go_end0
                        refine ⟨rfl, ev7, new7, ?_⟩
                        exact finV HE8.out hot EBO.out EOT.out EFB.out EFO.out EBL.out EOL.out HB12.out

end Go.Proofs.Qxb6602859a
