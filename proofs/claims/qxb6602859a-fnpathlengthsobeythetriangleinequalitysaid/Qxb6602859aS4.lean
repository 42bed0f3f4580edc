import Derived.Test.Qxb6602859aS3
import Derived.Test.Qxb6602859aQ1
import Derived.Deep.RegionLaw
namespace Go.Proofs.Qxb6602859a
open Go.RowKit Kit
set_option linter.unusedVariables false
set_option linter.unusedSimpArgs false

theorem Try.info60 : (Try.prog.info? 60).map (fun i => (i.zero, i.size, i.bytes)) = some (some (.agg #[.int .i32 0, .int .i32 0]), 2, 8) := by kernel_rfl
theorem rest30_0 : restF Try.f30 0 = (itemF Try.f30 0).seq (restF Try.f30 1) := rfl
theorem rest30_1 : restF Try.f30 1 = (itemF Try.f30 1).seq (restF Try.f30 2) := rfl
theorem rest30_2 : restF Try.f30 2 = (itemF Try.f30 2).seq (restF Try.f30 3) := rfl
theorem rest30_3 : restF Try.f30 3 = (itemF Try.f30 3).seq (restF Try.f30 4) := rfl

theorem TS.pushS1 {H gb n : Nat} {w wr : World} {ord low comp : Nat → Nat} {on : Nat → Bool} {sv fv : Value} {S : List Nat} {F : List (Nat × Nat)} {r : Nat} (h : TS H gb n w wr ord low comp on sv fv S F r)
    {o : Obj} {w2 : World} {sv' : Value} {x : Nat} (hg : (wr.alloc o).grownBy w2 sv.ownBlock) (ho : w2.ownsRow (H + 11) 21 1 sv' (S.length + 1) (cellsS S ++ [.int .i32 (x : Int)])) :
    TS H gb n w (w2.setCell ⟨H + 8, 0, none⟩ sv') ord low comp on sv' fv (S ++ [x]) F r := (h.alloc o).pushS hg (by rw [cellsS_snoc]; simpa using ho)

theorem TS.pushF1 {H gb n : Nat} {w wr : World} {ord low comp : Nat → Nat} {on : Nat → Bool} {sv fv : Value} {S : List Nat} {F : List (Nat × Nat)} {r : Nat} (h : TS H gb n w wr ord low comp on sv fv S F r)
    {o : Obj} {w2 : World} {fv' : Value} {x y : Nat} (hg : (wr.alloc o).grownBy w2 fv.ownBlock) (ho : w2.ownsRow (H + 11) 60 2 fv' (F.length + 1) (flatF F ++ [.int .i32 (x : Int), .int .i32 (y : Int)])) :
    TS H gb n w (w2.setCell ⟨H + 9, 0, none⟩ fv') ord low comp on sv fv' S (F ++ [(x, y)]) r := (h.alloc o).pushF hg (by rw [flatF_snoc]; simpa using ho)

theorem TS.grownCell {H gb n : Nat} {w wr : World} {ord low comp : Nat → Nat} {on : Nat → Bool} {sv fv : Value} {S : List Nat} {F : List (Nat × Nat)} {r : Nat} (h : TS H gb n w wr ord low comp on sv fv S F r)
    {o : Obj} {w2 : World} (hg : (wr.alloc o).grownBy w2 sv.ownBlock) : w2.cell? ⟨H + 8, 0, none⟩ = some sv ∧ w2.frozen? ⟨H + 8, 0, none⟩ = false :=
  grown_cell hg (fun e => by have := h.blkS e; omega) h.cS h.zS

theorem TS.grownCellF {H gb n : Nat} {w wr : World} {ord low comp : Nat → Nat} {on : Nat → Bool} {sv fv : Value} {S : List Nat} {F : List (Nat × Nat)} {r : Nat} (h : TS H gb n w wr ord low comp on sv fv S F r)
    {o : Obj} {w2 : World} (hg : (wr.alloc o).grownBy w2 fv.ownBlock) : w2.cell? ⟨H + 9, 0, none⟩ = some fv ∧ w2.frozen? ⟨H + 9, 0, none⟩ = false :=
  grown_cell hg (fun e => by have := h.blkF e; omega) h.cF h.zF

theorem own_shape {w : World} {B e s n : Nat} {v : Value} {xs : List Value} (h : w.ownsRow B e s v (n + 1) xs) : ∃ g cap, v = .slice (some ⟨g, 0, none⟩) (n + 1) cap := by
  obtain ⟨_, ⟨_, h0⟩ | ⟨g, cap, cur, rfl, _⟩⟩ := h
  · omega
  · exact ⟨g, cap, rfl⟩

theorem far_cell {w w6 : World} {o : Obj} {row : Option Nat} {a : Addr} {v : Value} (hg : (w.alloc o).drew.grownBy w6 row) (hc : w.cell? a = some v) (hne : some a.block ≠ row) : w6.cell? a = some v :=
  hg.cell (show (w.alloc o).drew.cell? a = some v from cell_later (below_alloc0 w o).drew hc) hne

theorem cell_one_new (w : World) (x : Value) (t : TypeId) : ∀ j u, [x][j]? = some u → (w.alloc (.cells #[x] t)).cell? ((⟨w.heap.size, 0, none⟩ : Addr).add j) = some u := by
  intro j u hj
  match j, hj with
  | 0, hj => simp at hj; subst hj; simp [Addr.add]

theorem cell_two_new (w : World) (x y : Value) (t : TypeId) : ∀ j u, [x, y][j]? = some u → (w.alloc (.cells #[x, y] t)).cell? ((⟨w.heap.size, 0, none⟩ : Addr).add j) = some u := by
  intro j u hj
  match j, hj with
  | 0, hj => simp at hj; subst hj; simp [Addr.add]
  | 1, hj => simp at hj; subst hj; simp [Addr.add]

set_option maxHeartbeats 4000000 in
theorem visit_any (H gb n nt nk oc tc kc v r : Nat) (oa ta ka : Option Addr) (off : Nat → Nat) (tz kz : Nat → Int) (w wr : World) (ord low comp : Nat → Nat) (on : Nat → Bool) (sv fv : Value) (S : List Nat) (F : List (Nat × Nat))
    (hT : TS H gb n w wr ord low comp on sv fv S F r) (hG : Gr w gb n (n + 1) nt nk oc tc kc oa ta ka off tz kz) (hH : w.heap.size = H)
    (hv : v < n) (hn : n ≤ 65536) (hr : r ≤ 65536) (hS : S.length ≤ 65536) (hF : F.length ≤ 65536) (ho : off v ≤ 65536) :
    Calls Try.prog 30 #[.int .i32 (v : Int), .pointer (some ⟨H + 10, 0, none⟩), .pointer (some ⟨H + 2, 0, none⟩), .pointer (some ⟨H + 4, 0, none⟩), .pointer (some ⟨H + 8, 0, none⟩), .pointer (some ⟨H + 7, 0, none⟩), .pointer (some ⟨H + 9, 0, none⟩), .pointer (some ⟨H, 0, none⟩)] wr
      fun e w' => e = .returned (.tuple #[]) ∧ ∃ sv' fv', TS H gb n w w' (up ord v (r + 1)) (up low v (r + 1)) comp (up on v true) sv' fv' (S ++ [v]) (F ++ [(v, off v)]) (r + 1) := by
  have HG : ∀ w', Below H w w' → Gr w' gb n (n + 1) nt nk oc tc kc oa ta ka off tz kz := fun w' hb => hG.below (by rw [hH]; exact hb)
  have HG := hid HG
  have hgb : gb < H := by rw [← hH]; exact World.block_lt_of_cell? _ _ hG.c1
  have HO := hid hG.rO.slice.2.2
  have HH := hid hH
  clear hG hH
  have i0 : (0 : Int) ≤ (v : Int) := by omega
  have i1 : (v : Int) < (n : Int) := by omega
  have cR := hT.cR
  have zR := hT.zR
  have HT := hid hT
  clear hT
  go_enter Try.func30, Try.ntmps30
  change Code.wp Try.prog (restF Try.f30 0) _ _ _
  rw [rest30_0]
  conv => arg 2; arg 1; whnf
  go_wp2
  have T1 := HT.out.setR (r + 1) (z := (r : Int) + 1) (by omega)
  have e1 : ((r + 1 : Nat) : Int) = (r : Int) + 1 := by omega
  have cR := T1.cR
  rw [e1] at cR
  generalize wr.setCell ⟨H + 10, 0, none⟩ (.int .i32 ((r : Int) + 1)) = w1 at T1 cR ⊢
  have cO := T1.cO
  have cL := T1.cL
  have co := T1.rO.cell hv
  have cl := T1.rL.cell hv
  have zo := T1.rO.frozen v
  have zl := T1.rL.frozen v
  generalize (Value.int .i32 ((ord v : Nat) : Int)) = v0 at co
  generalize (Value.int .i32 ((low v : Nat) : Int)) = v1 at cl
  have HT1 := hid T1
  clear T1 e1 HT zR
  rw [rest30_1]
  conv => arg 2; arg 1; whnf
  go_wp2
  go_region
  all_goals go_wp2
  have T2 := ((HT1.out.setO v (r + 1) (z := (r : Int) + 1) (by omega)).setL v (r + 1) (z := (r : Int) + 1) (by omega)).drew
  generalize ((w1.setCell ⟨H + 1, v, none⟩ (.int .i32 ((r : Int) + 1))).setCell ⟨H + 3, v, none⟩ (.int .i32 ((r : Int) + 1))).drew = w2 at T2 ⊢
  have HT2 := hid T2
  have cS := T2.cS
  have zS := T2.zS
  obtain ⟨i21, hi21, hz0, hz1, hz2⟩ := info_parts Try.info21
  clear T2 HT1 cR cO cL co cl zo zl
  rw [rest30_2]
  conv => arg 2; arg 1; whnf
  go_wp2_with (at_builtin; refine wpList_append_own_at _ rfl _ _ 22 rfl (H + 11) 21 i21 (.int .i32 0) 1 4 Try.underlying22 hi21 hz0 hz1 hz2 rfl (by decide) sv S.length (cellsS S) rfl (HT2.out.oS.alloc _) ⟨w2.heap.size, 0, none⟩ 1 1 [.int .i32 (v : Int)] rfl rfl (cell_one_new _ _ _) (by simp [Value.oneCell']) (by unfold maxLen; omega) (by omega) (by have := HT2.out.size; simp; omega) ?_; intro v' w3 hown' hgrow hnl hloc; obtain ⟨g', cap', rfl⟩ := own_shape hown'; obtain ⟨k0, k1⟩ := HT2.out.grownCell hgrow; have T3 := hid (HT2.out.pushS1 hgrow hown'); clear hown' hgrow hnl hloc)
  clear k0 k1 cS zS
  generalize w3.setCell ⟨H + 8, 0, none⟩ (.slice (some ⟨g', 0, none⟩) (S.length + 1) cap') = w4 at T3 ⊢
  generalize (Value.slice (some ⟨g', 0, none⟩) (S.length + 1) cap') = sv' at T3 ⊢
  have cN := T3.out.cN
  have cn := T3.out.rN.cell hv
  have zn := T3.out.rN.frozen v
  generalize (Value.bool (on v)) = v0 at cn
  rw [rest30_3]
  conv => arg 2; arg 1; whnf
  go_wp2
  have T5 := T3.out.setN v true
  generalize w4.setCell ⟨H + 6, v, none⟩ (.bool true) = w5 at T5 ⊢
  have HT5 := hid T5
  have cF := T5.cF
  have zF := T5.zF
  have cG := T5.cG
  have G5 := HG.out w5 T5.bel
  have g2 := G5.c2
  obtain ⟨og, rfl, cw⟩ := HO.out v (by omega)
  have hog0 : og < H := by rw [← HH.out]; exact World.block_lt_of_cell? _ _ cw
  have cv := (T5.bel.cell (p := ⟨og, v, none⟩) hog0).trans cw
  obtain ⟨i60, hi60, hy0, hy1, hy2⟩ := info_parts Try.info60
  have hog := hid hog0
  have hgb := hid hgb
  have i2 : (v : Int) < (n : Int) + 1 := by omega
  clear hog0 cw
  clear T5 T3 cN cn zn G5 HG HT2 hz0 hz1 hz2 hi21
  change Code.wp Try.prog (itemF Try.f30 4) _ _ _
  conv => arg 2; whnf
  have n9 : some (H + 9) ≠ fv.ownBlock := fun e => by have := HT5.out.blkF e.symm; omega
  have nH : some H ≠ fv.ownBlock := fun e => by have := HT5.out.blkF e.symm; omega
  have ngb : some gb ≠ fv.ownBlock := fun e => by have := HT5.out.blkF e.symm; have := hgb.out; omega
  have nog : some og ≠ fv.ownBlock := fun e => by have := HT5.out.blkF e.symm; have := hog.out; omega
  have m1 : H + 9 ≠ gb := by have := hgb.out; omega
  have m2 : H + 9 ≠ og := by have := hog.out; omega
  have l9 : H + 9 < w5.heap.size := by have := HT5.out.size; omega
  have lH : H < w5.heap.size := by omega
  have lgb : gb < w5.heap.size := by have := hgb.out; omega
  have log : og < w5.heap.size := by have := hog.out; omega
  go_wp2
  go_region_law
    ((refine step_append_lies _ (by rfl) _ _ _ (by rfl) (H + 11) 60 i60 _ 2 8 Try.underlying58 hi60 hy0 hy1 hy2 rfl (by omega) fv F.length (flatF F) (by rfl) ((HT5.out.oF.alloc _).drew)
        ⟨w5.heap.size, 0, none⟩ 1 1 [.int .i32 (v : Int), .int .i32 ((off v : Nat) : Int)] (by rfl) (by rfl) (World.news_of_block (cs := #[.int .i32 (v : Int), .int .i32 ((off v : Nat) : Int)]) (t := 60) (fr := (0, 0)) (heap_alloc_new w5 _)) (by simp [Value.oneCell'])
        (by omega) (by unfold maxLen; omega) (by omega) (by have := HT5.out.size; simp; omega) (w5.heap.size + 1) (by simp) ?_; intro gg cap w6 hown1 hgrow hat hlt; obtain ⟨k0, k1⟩ := HT5.out.drew.grownCellF hgrow; have k2 := far_cell hgrow cG nH; have k3 := far_cell hgrow g2 ngb; have k4 := far_cell hgrow cv nog; have T6 := hid (HT5.out.drew.pushF1 hgrow hown1)))
  all_goals
    go_end0
    exact ⟨rfl, _, _, T6.out⟩

end Go.Proofs.Qxb6602859a
