import Derived.Test.Qxb6602792aW5
namespace Go.Proofs.Qxb6602792a
open Go.RowKit Kit
set_option linter.unusedVariables false

theorem grown_drewN {w w' : World} {row : Option Nat} (h : w.grownBy w' row) (q : Nat) : w.grownBy (w'.drewN q) row := ⟨h.os, h.tape, h.output, h.size, h.block⟩

/-- the box of a names lies at the heap's end -/
def boxW (w : World) (fv mv : Value) : World := w.alloc (.cells #[fv, mv] 42)

theorem boxW_size (w : World) (fv mv : Value) : (boxW w fv mv).heap.size = w.heap.size + 1 := by unfold boxW; simp
theorem boxW_0 (w : World) (fv mv : Value) : (boxW w fv mv).cell? ⟨w.heap.size, 0, none⟩ = some fv := by
  unfold boxW World.cell?; simp only [Deep.blk_alloc_new]; rfl
theorem boxW_1 (w : World) (fv mv : Value) : (boxW w fv mv).cell? ⟨w.heap.size, 1, none⟩ = some mv := by
  unfold boxW World.cell?; simp only [Deep.blk_alloc_new]; rfl
theorem boxW_f (w : World) (fv mv : Value) (i : Nat) : (boxW w fv mv).frozen? ⟨w.heap.size, i, none⟩ = false := by
  unfold boxW World.frozen?; simp only [Deep.blk_alloc_new]; simp
theorem boxW_below (w : World) (fv mv : Value) : Below w.heap.size w (boxW w fv mv) := (Below.refl _ _).alloc (Nat.le_refl _) _

theorem StrF.later {w w' : World} {v : Value} {n : Nat} {f : Nat → ByteArray} (h : StrF w v n f) (hb : Below w.heap.size w w') : StrF w' v n f := by
  obtain ⟨a, cap, rfl, h0 | ⟨g, o, rfl, hc⟩⟩ := h
  · exact ⟨a, cap, rfl, .inl h0⟩
  · exact ⟨_, cap, rfl, .inr ⟨g, o, rfl, fun i hi => cell_later hb (hc i hi)⟩⟩

set_option maxHeartbeats 400000 in
theorem zz_A_in (n : Nat) (fv : Value) (f : Nat → ByteArray) (s : ByteArray) (w : World) (hn : n < 16) (hf : StrF w fv n f) (hin : InF n f s) :
    Calls Try.prog 11 #[fv, .map none, .string s] w fun e w' => e = .returned (.tuple #[.bool false, fv, .map none]) ∧ Below w.heap.size w w' := by
  have HX := hid (add_A_in w.heap.size n fv f s (boxW w fv (.map none)) hn (boxW_0 ..) (boxW_1 ..) (hf.later (boxW_below ..)) hin)
  have b0 := boxW_0 w fv (.map none)
  have b1 := boxW_1 w fv (.map none)
  have BB := hid (boxW_below w fv (.map none))
  obtain ⟨a, cap, rfl, -⟩ := hf
  go_enter Try.func11, Try.ntmps11
  go_wp2_with fail
  refine HX.out.mono ?_
  rintro e w' ⟨rfl, hw⟩
  subst hw
  go_wp2
  go_quiet (fail)
  go_wp2
  go_ret3
  exact ⟨rfl, below_drewN BB.out _⟩

theorem own_later {w w' : World} {B n : Nat} {v : Value} {xs : List Value} (h : w.ownsRow B 9 1 v n xs) (hb : Below w.heap.size w w') : w'.ownsRow B 9 1 v n xs := by
  obtain ⟨hl, h | ⟨g, cap, cur, rfl, hB, hg, r⟩⟩ := h
  · exact ⟨hl, .inl h⟩
  · exact ⟨hl, .inr ⟨g, cap, cur, rfl, hB, (hb.block g ((Array.getElem?_eq_some_iff.1 hg).1)).trans hg, r⟩⟩

theorem own_block_lt {w : World} {B n g : Nat} {v : Value} {xs : List Value} (h : w.ownsRow B 9 1 v n xs) (hg : v.ownBlock = some g) : g < w.heap.size := by
  obtain ⟨hl, ⟨rfl, _⟩ | ⟨g', cap, cur, rfl, hB, hg', r⟩⟩ := h
  · cases hg
  · cases hg; exact (Array.getElem?_eq_some_iff.1 hg').1

theorem own_setCell {w : World} {B n : Nat} {v : Value} {xs : List Value} (h : w.ownsRow B 9 1 v n xs) {a : Addr} (ha : v.ownBlock ≠ some a.block) (u : Value) : (w.setCell a u).ownsRow B 9 1 v n xs := by
  obtain ⟨hl, h | ⟨g, cap, cur, rfl, hB, hg, r⟩⟩ := h
  · exact ⟨hl, .inl h⟩
  · refine ⟨hl, .inr ⟨g, cap, cur, rfl, hB, ?_, r⟩⟩
    rw [Deep.blk_setCell_other _ _ _ _ (fun e => ha (by rw [← e]; rfl))]
    exact hg

/-- what a call of ZZNamesAdd leaves of the old memory, box and all -/
theorem grown_box {w w1 : World} {fv mv : Value} {row : Option Nat} (h : (boxW w fv mv).grownBy w1 row) : w.grownBy w1 row := by
  have h0 : w.grownBy (boxW w fv mv) row := World.grownBy_alloc w _ row
  exact h0.trans h

theorem grown_setNew {w w1 : World} {row : Option Nat} (h : w.grownBy w1 row) {a : Addr} (ha : w.heap.size ≤ a.block) (v : Value) : w.grownBy (w1.setCell a v) row :=
  ⟨h.os, h.tape, h.output, by rw [size_setCell]; exact h.size, fun k hk hr => by rw [Deep.blk_setCell_other _ _ _ _ (by omega)]; exact h.block k hk hr⟩

set_option maxHeartbeats 400000 in
theorem zz_A_out (B n : Nat) (fv : Value) (xs : List Value) (f : Nat → ByteArray) (s : ByteArray) (w : World) (hn : n < 16) (hB : B ≤ w.heap.size) (hf : StrF w fv n f) (hown : w.ownsRow B 9 1 fv n xs) (hin : ¬ InF n f s) :
    Calls Try.prog 11 #[fv, .map none, .string s] w fun e w' => ∃ fv', e = .returned (.tuple #[.bool true, fv', .map none]) ∧ w'.ownsRow B 9 1 fv' (n + 1) (xs ++ [.string s]) ∧ w.grownBy w' fv.ownBlock ∧
      (fv'.ownBlock = fv.ownBlock ∨ ∃ g, fv'.ownBlock = some g ∧ w.heap.size ≤ g) := by
  have hne : fv.ownBlock ≠ some w.heap.size := fun e => by have := own_block_lt hown e; omega
  have HX := hid (add_A_out B w.heap.size n fv xs f s (boxW w fv (.map none)) hn (by rw [boxW_size]; omega) (boxW_0 ..) (boxW_1 ..) (boxW_f ..) (hf.later (boxW_below ..)) (own_later hown (boxW_below ..)) hne hin)
  have b1 := boxW_1 w fv (.map none)
  have BS := hid (boxW_size w fv (.map none))
  have B0 := hid (boxW_0 w fv (.map none))
  have HN := hid hne
  obtain ⟨a, cap, rfl, -⟩ := hf
  clear hne hown hin
  go_enter Try.func11, Try.ntmps11
  go_wp2_with fail
  refine HX.out.mono ?_
  rintro e w' ⟨rfl, fv', w1, hw, h1, hg, hl⟩
  obtain ⟨g', cap', rfl⟩ := own_shape h1
  have c0 : w'.cell? ⟨w.heap.size, 0, none⟩ = some (.slice (some ⟨g', 0, none⟩) (n + 1) cap') := by
    rw [hw]; exact World.cell?_setCell_same _ _ _ (grown_cell' hg HN.out B0.out)
  have c1 : w'.cell? ⟨w.heap.size, 1, none⟩ = some (.map none) := by
    rw [hw, World.cell?_setCell_other _ _ _ _ (by simp)]; exact grown_cell' hg HN.out b1
  have hloc : g' ≠ w.heap.size ∧ ((Value.slice (some ⟨g', 0, none⟩) (n + 1) cap').ownBlock = (Value.slice a n cap).ownBlock ∨ ∃ g, (Value.slice (some ⟨g', 0, none⟩) (n + 1) cap').ownBlock = some g ∧ w.heap.size ≤ g) := by
    rcases hl with hl | hl
    · refine ⟨fun e => HN.out ?_, .inl hl⟩
      rw [← hl, e]; rfl
    · rw [BS.out] at hl
      have : g' = w.heap.size + 1 + 1 := by simpa [Value.ownBlock] using hl
      exact ⟨by omega, .inr ⟨g', rfl, by omega⟩⟩
  have HL := hid hloc
  have HG := hid (grown_box hg)
  have H1 := hid h1
  have HW := hid hw
  clear hloc hg h1 hw hl b1
  go_wp2
  go_quiet (fail)
  go_wp2
  go_ret3
  refine ⟨.slice (some ⟨g', 0, none⟩) (n + 1) cap', rfl, ?_, grown_drewN ?_ _, HL.out.2⟩
  · have e : (w'.drewN nq).ownsRow B 9 1 (Value.slice (some ⟨g', 0, none⟩) (n + 1) cap') (n + 1) (xs ++ [.string s]) = w'.ownsRow B 9 1 (Value.slice (some ⟨g', 0, none⟩) (n + 1) cap') (n + 1) (xs ++ [.string s]) := rfl
    rw [e, HW.out]
    exact own_setCell H1.out (fun e => HL.out.1 (by simpa [Value.ownBlock] using e)) _
  · rw [HW.out]; exact grown_setNew HG.out (Nat.le_refl _) _

theorem madeW_grown_box {w w1 : World} {fv : Value} (h : (madeW (boxW w fv (.map none)) w.heap.size).grownBy w1 (some (boxW w fv (.map none)).heap.size)) : Below w.heap.size w w1 := by
  have hs := boxW_size w fv (.map none)
  have hb : Below w.heap.size w (madeW (boxW w fv (.map none)) w.heap.size) := by
    unfold madeW
    exact ((boxW_below w fv (.map none)).setCell (by simp) _).alloc (by rw [size_setCell, hs]; omega) _
  refine hb.grown h ?_ ?_
  · exact hb.size
  · intro k hk; cases hk; omega

set_option maxHeartbeats 400000 in
theorem zz_B (g o cap n : Nat) (f : Nat → ByteArray) (s : ByteArray) (w : World) (hn : 16 ≤ n) (hn2 : n ≤ 1048576) (hs : s.size ≤ maxLen)
    (hc : ∀ i, i < n → w.cell? ⟨g, o + i, none⟩ = some (.string (f i))) (hsz : ∀ i, i < n → (f i).size ≤ maxLen) :
    Calls Try.prog 11 #[.slice (some ⟨g, o, none⟩) n cap, .map none, .string s] w fun e w' => ∃ mb, e = .returned (.tuple #[.bool (!memF f n s.data.toList), .slice (some ⟨g, o, none⟩) n cap, .map (some mb)]) ∧ w.heap.size ≤ mb ∧
      SetS w' mb (n + 1) (fun y => decide (y = s.data.toList) || memF f n y) (bump (memF f n s.data.toList) (nd f n)) ∧ Below w.heap.size w w' := by
  have hglt : g < w.heap.size := World.block_lt_of_cell? _ _ (hc 0 (by omega))
  have HX := hid (add_B w.heap.size g o cap n f s (boxW w (.slice (some ⟨g, o, none⟩) n cap) (.map none)) hn hn2 hs (by omega) (by rw [boxW_size]; omega) (boxW_0 ..) (boxW_1 ..) (boxW_f ..) (fun i hi => cell_later (boxW_below ..) (hc i hi)) hsz)
  have B0 := hid (boxW_0 w (.slice (some ⟨g, o, none⟩) n cap) (.map none))
  have B1 := hid (boxW_1 w (.slice (some ⟨g, o, none⟩) n cap) (.map none))
  have BS := hid (boxW_size w (.slice (some ⟨g, o, none⟩) n cap) (.map none))
  clear hc hsz
  go_enter Try.func11, Try.ntmps11
  go_wp2_with fail
  refine HX.out.mono ?_
  rintro e w' ⟨rfl, hset, hgr⟩
  have hne : some (boxW w (.slice (some ⟨g, o, none⟩) n cap) (.map none)).heap.size ≠ some w.heap.size := by rw [BS.out]; intro e; simp at e
  have c0 := grown_cell' hgr hne (madeW_other B0.out (.inr (by omega)))
  have c1 := grown_cell' hgr hne (madeW_self B1.out)
  have HS := hid hset
  have HG := hid (madeW_grown_box hgr)
  rw [BS.out] at c1
  clear hset hgr hne
  go_wp2
  go_quiet (fail)
  go_wp2
  go_ret3
  refine ⟨w.heap.size + 1, rfl, by omega, ?_, below_drewN HG.out _⟩
  have h := HS.out
  rw [BS.out] at h
  exact h.drewN _

set_option maxHeartbeats 400000 in
theorem zz_C (fv : Value) (a : Option Addr) (l c mb m sz : Nat) (hfv : fv = .slice a l c) (mem : List UInt8 → Bool) (s : ByteArray) (w : World) (hs : s.size ≤ maxLen) (hm : m < maxLen) (hset : SetS w mb m mem sz) :
    Calls Try.prog 11 #[fv, .map (some mb), .string s] w fun e w' => e = .returned (.tuple #[.bool (!mem s.data.toList), fv, .map (some mb)]) ∧
      SetS w' mb (m + 1) (fun y => decide (y = s.data.toList) || mem y) (bump (mem s.data.toList) sz) ∧ w.grownBy w' (some mb) := by
  subst hfv
  have hlt := hset.lt
  have hset' : SetS (boxW w (.slice a l c) (.map (some mb))) mb m mem sz := hset.below (boxW_below ..) hlt
  have b0 := boxW_0 w (.slice a l c) (.map (some mb))
  have b1 := boxW_1 w (.slice a l c) (.map (some mb))
  cases hmem : mem s.data.toList
  · have HX := hid (add_C_out w.heap.size mb m sz mem s _ hs hm b1 hset' hmem)
    have HMM := hid hmem
    clear hset hset' hmem
    go_enter Try.func11, Try.ntmps11
    go_wp2_with fail
    refine HX.out.mono ?_
    rintro e w' ⟨rfl, h1, hgr⟩
    have hne : some mb ≠ some w.heap.size := by intro e; cases e; omega
    have c0 := grown_cell' hgr hne b0
    have c1 := grown_cell' hgr hne b1
    have HS := hid h1
    have HG := hid (grown_box hgr)
    clear h1 hgr hne b0 b1
    go_wp2
    go_quiet (fail)
    go_wp2
    go_ret3
    exact ⟨rfl, HS.out.drewN _, grown_drewN HG.out _⟩
  · have HX := hid (add_C_in w.heap.size mb m sz mem s _ hs b1 hset' hmem)
    have HMM := hid hmem
    have HS := hid hset'
    clear hset hset' hmem
    go_enter Try.func11, Try.ntmps11
    go_wp2_with fail
    refine HX.out.mono ?_
    rintro e w' ⟨rfl, hw⟩
    subst hw
    go_wp2
    go_quiet (fail)
    go_wp2
    go_ret3
    refine ⟨rfl, (((HS.out.mono (Nat.le_succ _)).drewN _).congr (fun y => ?_) rfl), grown_drewN (World.grownBy_alloc w _ _) _⟩
    by_cases hy : y = s.data.toList
    · subst hy; rw [HMM.out]; simp
    · simp [hy]

end Go.Proofs.Qxb6602792a
