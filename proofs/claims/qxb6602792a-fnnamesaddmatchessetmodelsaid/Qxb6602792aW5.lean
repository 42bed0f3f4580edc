import Derived.Test.Qxb6602792aW4
namespace Go.Proofs.Qxb6602792a
open Go.RowKit Kit
set_option linter.unusedVariables false

set_option maxHeartbeats 400000 in
theorem add_A_in (nb n : Nat) (fv : Value) (f : Nat → ByteArray) (s : ByteArray) (w : World) (hn : n < 16)
    (c0 : w.cell? ⟨nb, 0, none⟩ = some fv) (c1 : w.cell? ⟨nb, 1, none⟩ = some (.map none)) (hf : StrF w fv n f) (hin : InF n f s) :
    Calls Try.prog 22 #[.pointer (some ⟨nb, 0, none⟩), .string s] w fun e w' => e = .returned (.bool false) ∧ w' = w := by
  have hnil := fun u => run_eql_map_nil (P := Try.prog) u 25 9 4 none Try.underlying25
  have HX := hid (has_any s w (by omega) hf)
  have HIN := hid hin
  obtain ⟨a, cap, rfl, -⟩ := hf
  have hn' : (n : Int) < 16 := by omega
  clear hin
  go_enter Try.func22, Try.ntmps22
  go_wp2_with fail
  refine HX.out.mono ?_
  rintro e w' ⟨⟨r, rfl, hr⟩, rfl⟩
  obtain rfl : r = true := hr.2 HIN.out
  clear hr
  go_wp2
  go_ret
  exact ⟨rfl, rfl⟩

theorem own_shape {w : World} {B n : Nat} {v : Value} {xs : List Value} (h : w.ownsRow B 9 1 v (n + 1) xs) : ∃ g cap, v = .slice (some ⟨g, 0, none⟩) (n + 1) cap := by
  obtain ⟨_, ⟨_, h0⟩ | ⟨g, cap, cur, rfl, _⟩⟩ := h
  · omega
  · exact ⟨g, cap, rfl⟩

theorem grown_cell {w w1 : World} {o : Obj} {row : Option Nat} {nb i : Nat} {v : Value} (hg : (w.alloc o).grownBy w1 row) (hne : row ≠ some nb) (hc : w.cell? ⟨nb, i, none⟩ = some v) (hf : w.frozen? ⟨nb, i, none⟩ = false) :
    w1.cell? ⟨nb, i, none⟩ = some v ∧ w1.frozen? ⟨nb, i, none⟩ = false := by
  have hlt := World.block_lt_of_cell? _ _ hc
  have hlt' : nb < w.heap.size := hlt
  have e1 : w1.heap[nb]? = (w.alloc o).heap[nb]? := hg.block nb (by simp; omega) (fun e => hne e.symm)
  have e2 : (w.alloc o).heap[nb]? = w.heap[nb]? := Deep.blk_alloc_lt w o nb hlt
  have e3 := e1.trans e2
  exact ⟨(World.cell?_of_block (w := w) (a := ⟨nb, i, none⟩) e3).trans hc, (World.frozen?_of_block (w := w) (a := ⟨nb, i, none⟩) e3).trans hf⟩

set_option maxHeartbeats 400000 in
theorem add_A_out (B nb n : Nat) (fv : Value) (xs : List Value) (f : Nat → ByteArray) (s : ByteArray) (w : World) (hn : n < 16) (hB : B ≤ w.heap.size)
    (c0 : w.cell? ⟨nb, 0, none⟩ = some fv) (c1 : w.cell? ⟨nb, 1, none⟩ = some (.map none)) (f0 : w.frozen? ⟨nb, 0, none⟩ = false)
    (hf : StrF w fv n f) (hown : w.ownsRow B 9 1 fv n xs) (hne : fv.ownBlock ≠ some nb) (hin : ¬ InF n f s) :
    Calls Try.prog 22 #[.pointer (some ⟨nb, 0, none⟩), .string s] w fun e w' => e = .returned (.bool true) ∧
      ∃ fv' w1, w' = w1.setCell ⟨nb, 0, none⟩ fv' ∧ w1.ownsRow B 9 1 fv' (n + 1) (xs ++ [.string s]) ∧ w.grownBy w1 fv.ownBlock ∧ (fv'.ownBlock = fv.ownBlock ∨ fv'.ownBlock = some (w.heap.size + 1)) := by
  have hnil := fun u => run_eql_map_nil (P := Try.prog) u 25 9 4 none Try.underlying25
  have HX := hid (has_any s w (by omega) hf)
  have HIN := hid hin
  have HO := hid hown
  have hnb := World.block_lt_of_cell? _ _ c0
  obtain ⟨i0, hi, hz0, hz1, hz2⟩ := info_parts Try.info9
  obtain ⟨a, cap, rfl, -⟩ := hf
  have hn' : (n : Int) < 16 := by omega
  clear hin hown
  go_enter Try.func22, Try.ntmps22
  go_wp2_with fail
  refine HX.out.mono ?_
  rintro e w' ⟨⟨r, rfl, hr⟩, rfl⟩
  obtain rfl : r = false := by
    cases r
    · rfl
    · exact absurd (hr.1 rfl) HIN.out
  clear hr
  go_wp2_with (at_builtin; refine wpList_append_own_at _ rfl _ _ 22 rfl B 9 i0 (.string ByteArray.empty) 1 16 Try.underlying22 hi hz0 hz1 hz2 rfl (by decide) (.slice a n cap) n xs rfl (HO.out.alloc _) ⟨w'.heap.size, 0, none⟩ 1 1 [.string s] rfl rfl (cell_one_new _ _ _) (by simp [Value.oneCell']) (by unfold maxLen; omega) (by omega) (by simp; omega) ?_; intro v' w1 hown' hgrow hnl hloc; obtain ⟨g', cap', rfl⟩ := own_shape hown'; obtain ⟨k0, k1⟩ := grown_cell hgrow hne c0 f0; have HO1 := hid hown'; have HG1 := hid hgrow; have HL := hid hloc; clear hown' hgrow hloc hnl)
  go_ret
  exact ⟨rfl, _, w1, rfl, HO1.out, (World.grownBy_alloc w' _ _).trans HG1.out, by simpa using HL.out⟩

theorem grown_cell' {w w1 : World} {row : Option Nat} {nb i : Nat} {v : Value} (hg : w.grownBy w1 row) (hne : row ≠ some nb) (hc : w.cell? ⟨nb, i, none⟩ = some v) : w1.cell? ⟨nb, i, none⟩ = some v := by
  have hlt : nb < w.heap.size := World.block_lt_of_cell? _ _ hc
  exact (World.cell?_of_block (w := w) (a := ⟨nb, i, none⟩) (hg.block nb hlt (fun e => hne e.symm))).trans hc

def bump (c : Bool) (k : Nat) : Nat := if c = true then k else k + 1

/-- the world behind 'ns.many = make(map[string]bool, 32)' -/
def madeW (w : World) (nb : Nat) : World := (w.setCell ⟨nb, 1, none⟩ (.map (some w.heap.size))).alloc (.map #[] 0)

theorem size_setCell (w : World) (a : Addr) (v : Value) : (w.setCell a v).heap.size = w.heap.size := by simp [World.setCell]

theorem madeW_set {w : World} {nb : Nat} : SetS (madeW w nb) w.heap.size 0 (fun _ => false) 0 := by
  have h := IsSet.made (ky := Lit.string) (P := Try.prog) (kt := 9) (et := 4) (w.setCell ⟨nb, 1, none⟩ (.map (some w.heap.size)))
  rw [size_setCell] at h
  exact h

theorem madeW_other {w : World} {nb g i : Nat} {v : Value} (hc : w.cell? ⟨g, i, none⟩ = some v) (hne : g ≠ nb ∨ i ≠ 1) : (madeW w nb).cell? ⟨g, i, none⟩ = some v := by
  unfold madeW
  refine cell_later ((Below.refl _ _).alloc (Nat.le_refl _) _) ?_
  rw [World.cell?_setCell_other]
  · exact hc
  · intro e
    simp only [Addr.mk.injEq] at e
    omega

theorem madeW_self {w : World} {nb : Nat} {v : Value} (hc : w.cell? ⟨nb, 1, none⟩ = some v) : (madeW w nb).cell? ⟨nb, 1, none⟩ = some (.map (some w.heap.size)) := by
  unfold madeW
  exact cell_later ((Below.refl _ _).alloc (Nat.le_refl _) _) (World.cell?_setCell_same _ _ _ hc)

set_option maxHeartbeats 1000000 in
theorem add_B (nb g o cap n : Nat) (f : Nat → ByteArray) (s : ByteArray) (w : World) (hn : 16 ≤ n) (hn2 : n ≤ 1048576) (hs : s.size ≤ maxLen) (hg : g ≠ nb) (hnb : nb < w.heap.size)
    (c0 : w.cell? ⟨nb, 0, none⟩ = some (.slice (some ⟨g, o, none⟩) n cap)) (c1 : w.cell? ⟨nb, 1, none⟩ = some (.map none)) (f1 : w.frozen? ⟨nb, 1, none⟩ = false)
    (hc : ∀ i, i < n → w.cell? ⟨g, o + i, none⟩ = some (.string (f i))) (hsz : ∀ i, i < n → (f i).size ≤ maxLen) :
    Calls Try.prog 22 #[.pointer (some ⟨nb, 0, none⟩), .string s] w fun e w' => e = .returned (.bool (!memF f n s.data.toList)) ∧
      SetS w' w.heap.size (n + 1) (fun y => decide (y = s.data.toList) || memF f n y) (bump (memF f n s.data.toList) (nd f n)) ∧ (madeW w nb).grownBy w' (some w.heap.size) := by
  have hnil := fun u r => run_eql_map_nil (P := Try.prog) u 25 9 4 r Try.underlying25
  have hmm := fun u => run_makeMap_some (P := Try.prog) 25 9 4 Try.underlying25 .i64 32 u
  have hn' : ¬ (n : Int) < 16 := by omega
  have HC := hid hc
  have HSZ := hid hsz
  have HC0 := hid c0
  have HC1 := hid c1
  clear hc hsz
  go_enter Try.func22, Try.ntmps22
  go_wp2
  clear hmm c0 c1 f1
  have e0 : (w.setCell ⟨nb, 1, none⟩ (.map (some w.heap.size))).alloc (.map #[] 0) = madeW w nb := rfl
  rw [e0]
  clear e0
  go_loopw [6, 50] (fun _ i wr => ∃ k : Nat, k ≤ n ∧ i = .int .i64 k ∧ SetS wr w.heap.size k (memF f k) (nd f k) ∧ (madeW w nb).grownBy wr (some w.heap.size)) (fun _ i _ => n - (intOf i).toNat)
  case atStart => exact ⟨0, Nat.zero_le _, rfl, madeW_set.congr (fun _ => rfl) rfl, World.grownBy.refl _ _⟩
  case round =>
    obtain ⟨k, hk, rfl, hset, hgr⟩ := hrel
    have HS := hid hset
    have HG := hid hgr
    have hne : some w.heap.size ≠ some nb := fun e => by cases e; omega
    have k1 : wr.cell? ⟨nb, 1, none⟩ = some (.map (some w.heap.size)) := grown_cell' hgr hne (madeW_self HC1.out)
    by_cases hlt : k < n
    · have hgk := HC.out k hlt
      have hglt : g < w.heap.size := World.block_lt_of_cell? _ _ hgk
      have ck : wr.cell? ⟨g, o + k, none⟩ = some (.string (f k)) := grown_cell' hgr (fun e => by cases e; omega) (madeW_other hgk (.inl hg))
      clear hset hgr hgk
      have hfk := HSZ.out k hlt
      go_wp2_with (at_mapUpdate; refine wpList_put_set _ rfl _ _ _ 25 rfl 9 4 law9 Try.underlying25 Try.underlying4 lit_inj lit_key w.heap.size k (nd f k) (memF f k) rfl HS.out (by unfold maxLen; omega) _ (f k).data.toList rfl rfl (key9 hfk) ?_; intro w1 h1 g1; have H1 := hid h1; have G1 := hid g1; clear h1 g1)
      go_roundw
      case rel => exact ⟨k + 1, by omega, by go_num, H1.out, HG.out.trans G1.out⟩
      case measure => simp [intOf]; omega
    · obtain rfl : k = n := by omega
      have hlook := hset.look law9 (t := 25) Try.underlying25 Try.underlying4 (zero4 _) (key9 hs)
      clear hset hgr
      cases hm : memF f k s.data.toList
      · rw [hm] at hlook
        have HM := hid hm
        clear hm
        go_wp2_with (at_mapUpdate; refine wpList_put_set _ rfl _ _ _ 25 rfl 9 4 law9 Try.underlying25 Try.underlying4 lit_inj lit_key w.heap.size k (nd f k) (memF f k) rfl HS.out (by unfold maxLen; omega) _ s.data.toList rfl rfl (key9 hs) ?_; intro w1 h1 g1; have H1 := hid h1; have G1 := hid g1; clear h1 g1)
        go_ret
        exact ⟨by rw [HM.out]; rfl, H1.out, HG.out.trans G1.out⟩
      · rw [hm] at hlook
        have HM := hid hm
        clear hm
        go_wp2
        go_ret
        refine ⟨by rw [HM.out]; rfl, (HS.out.mono (Nat.le_succ _)).congr (fun y => ?_) ?_, HG.out⟩
        · by_cases hy : y = s.data.toList
          · subst hy; rw [HM.out]; simp
          · simp [hy]
        · rw [HM.out]; rfl

end Go.Proofs.Qxb6602792a
